/- EscapeAttrVal: the plain side, and the row that it fills. -/
import Derived.Test.YtfcedenofbefcaaGreatDoorW4
import Derived.Deep.RegionLaw
namespace Go.Proofs.YtfcedenofbefcaaGreatDoor
open Go.RowKit
set_option linter.unusedVariables false
set_option linter.unusedSimpArgs false
/-! EscapeAttrVal: the plain side. -/
def ctabL : List Int := [9, 10, 12, 13, 32, 34, 39, 60, 61, 62, 96]
/-- Is a byte one for which a value needs quotation marks? -/
def ctab (c : Int) : Bool := ctabL.contains c
structure CTab (w : World) : Prop where
  cells : ∀ c : Int, 0 ≤ c → c < 256 → w.cell? ⟨1, c.toNat, none⟩ = some (.bool (ctab c))
theorem CTab.below {w w' : World} {B0 : Nat} (h : CTab w) (hb : 1 < B0) (k : Below B0 w w') : CTab w' := ⟨fun c h0 h1 => (k.cell (p := ⟨1, c.toNat, none⟩) hb).trans (h.cells c h0 h1)⟩
def unq (T : List Int) : Bool := T.all fun c => !ctab c
theorem take_snoc {T : List Int} {k : Nat} (h : k < T.length) : T.take (k + 1) = T.take k ++ [T.getD k 0] := by
  rw [List.take_succ_eq_append_getElem h, List.getD_eq_getElem?_getD, List.getElem?_eq_getElem h]; rfl
theorem unq_snoc {T : List Int} {k : Nat} (h : k < T.length) : unq (T.take (k + 1)) = (unq (T.take k) && !ctab (T.getD k 0)) := by
  unfold unq
  rw [take_snoc h, List.all_append]
  simp
theorem cnt_snoc {T : List Int} {k : Nat} (h : k < T.length) (x : Int) : (T.take (k + 1)).count x = (T.take k).count x + if T.getD k 0 = x then 1 else 0 := by
  rw [take_snoc h, List.count_append]
  simp [List.count_cons]
/-- A value as it may stand: its bytes. -/
def GoodVal (V : List Int) : Prop := V.length ≤ 4000 ∧ ((∃ q w, (q = 34 ∨ q = 39) ∧ V = q :: (w ++ [q]) ∧ ∀ c ∈ w, c ≠ q ∧ c ≠ 0) ∨ (0 < V.length ∧ ∀ c ∈ V, ctab c = false ∧ c ≠ 0))
def entE (q : Int) : List Int := if q = 34 then [38, 35, 51, 52, 59] else [38, 35, 51, 57, 59]
def escQ (q : Int) (T : List Int) : List Int := T.flatMap fun c => if c = q then entE q else [c]
theorem escQ_app (q : Int) (S T : List Int) : escQ q (S ++ T) = escQ q S ++ escQ q T := by unfold escQ; rw [List.flatMap_append]
theorem escQ_none {q : Int} {T : List Int} (h : ∀ c ∈ T, c ≠ q) : escQ q T = T := by
  unfold escQ
  induction T with
  | nil => rfl
  | cons c T ih => rw [List.flatMap_cons, if_neg (h c (by simp)), ih fun x hx => h x (by simp [hx])]; rfl
theorem entE_len (q : Int) : (entE q).length = 5 := by unfold entE; split <;> rfl
theorem escQ_len (q : Int) (T : List Int) : (escQ q T).length = T.length + 4 * T.count q := by
  induction T with
  | nil => rfl
  | cons c T ih =>
    have e : escQ q (c :: T) = (if c = q then entE q else [c]) ++ escQ q T := rfl
    rw [e, List.length_append, ih, List.count_cons, List.length_cons]
    by_cases h : c = q
    · subst h; rw [if_pos rfl, entE_len]; simp; omega
    · rw [if_neg h]; simp [h]; omega
theorem escQ_good {q : Int} (hq : q = 34 ∨ q = 39) {T : List Int} (h : ∀ c ∈ T, c ≠ 0) : ∀ c ∈ escQ q T, c ≠ q ∧ c ≠ 0 := by
  intro c hc
  obtain ⟨x, hx, hc⟩ := List.mem_flatMap.mp hc
  by_cases e : x = q
  · rw [if_pos e] at hc
    unfold entE at hc
    rcases hq with rfl | rfl
    · simp at hc; omega
    · simp at hc; omega
  · rw [if_neg e] at hc
    obtain rfl := List.mem_singleton.mp hc
    exact ⟨e, h _ hx⟩
theorem count_zero_ne {q : Int} {T : List Int} (h : T.count q = 0) : ∀ c ∈ T, c ≠ q := fun c hc e => by
  subst e
  exact absurd hc (List.count_eq_zero.mp h)
end Go.Proofs.YtfcedenofbefcaaGreatDoor
namespace Go.Proofs.YtfcedenofbefcaaGreatDoor
open Go.RowKit
set_option linter.unusedVariables false
set_option linter.unusedSimpArgs false
/-! EscapeAttrVal: the row that is filled. -/
structure Es (w2 w : World) (g cap : Nat) (X : List Int) : Prop where
  r : ∃ R, w.heap[g]? = some (.cells (X.map (Value.int .u8) ++ R).toArray 5 (0, 0)) ∧ X.length + R.length = cap
  kept : Below g w2 w
theorem Es.cell {w2 w : World} {g cap : Nat} {X : List Int} (h : Es w2 w g cap X) {p : Addr} (hp : p.block < g) {v : Value} (hv : w2.cell? p = some v) : w.cell? p = some v := (h.kept.cell hp).trans hv
theorem Es.frozen {w2 w : World} {g cap : Nat} {X : List Int} (h : Es w2 w g cap X) (i : Nat) : w.frozen? ⟨g, i, none⟩ = false := by
  obtain ⟨R, hr, _⟩ := h.r
  exact frozen_of_block hr i
theorem Es.at {w2 w : World} {g cap : Nat} {X : List Int} (h : Es w2 w g cap X) {i : Nat} (hi : i < cap) : ∃ v, w.cell? ⟨g, i, none⟩ = some v := by
  obtain ⟨R, hr, hl⟩ := h.r
  rw [cell_of_block hr, List.getElem?_toArray]
  exact ⟨_, List.getElem?_eq_getElem (by simp; omega)⟩
theorem Es.drew {w2 w : World} {g cap : Nat} {X : List Int} (h : Es w2 w g cap X) : Es w2 w.drew g cap X := ⟨h.r, h.kept.drew⟩
theorem Es.push {w2 w : World} {g cap : Nat} {X : List Int} (h : Es w2 w g cap X) {c : Int} {j : Nat} (hj : j = X.length) (hl : j < cap) : Es w2 (w.setCell ⟨g, j, none⟩ (.int .u8 c)) g cap (X ++ [c]) := by
  subst hj
  obtain ⟨R, hr, hR⟩ := h.r
  cases R with
  | nil => simp at hR; omega
  | cons v R =>
    refine ⟨⟨R, ?_, by simp at hR ⊢; omega⟩, h.kept.setCell (Nat.le_refl _) _⟩
    rw [heap_set_same _ hr]
    simp
theorem Es.copy {w2 w w1 : World} {g cap : Nat} {X Y : List Int} (h : Es w2 w g cap X) {cur : List Value} (hc : w.heap[g]? = some (.cells cur.toArray 5 (0, 0))) (h1 : w1.heap[g]? = some (.cells (splice cur X.length (Y.map (Value.int .u8))).toArray 5 (0, 0))) (k : Below g w w1) (hl : X.length + Y.length ≤ cap) : Es w2 w1 g cap (X ++ Y) := by
  obtain ⟨R, hr, hR⟩ := h.r
  have e : cur = X.map (Value.int .u8) ++ R := by rw [hr] at hc; simpa using hc.symm
  subst e
  refine ⟨⟨R.drop Y.length, ?_, by simp; omega⟩, h.kept.trans k⟩
  rw [h1]
  have : splice (X.map (Value.int .u8) ++ R) X.length (Y.map (Value.int .u8)) = (X ++ Y).map (Value.int .u8) ++ R.drop Y.length := by
    unfold splice
    rw [List.take_append_of_le_length (by simp), List.take_of_length_le (by simp), List.map_append, List.append_assoc, List.drop_append]
    simp
  rw [this]
theorem Es.made {w : World} {g n : Nat} {cur : List Value} (hg : w.heap[g]? = some (.cells cur.toArray 5 (0, 0))) (hl : cur.length = n) : Es w w g n [] := ⟨⟨cur, by simpa using hg, by simpa using hl⟩, Below.refl _ _⟩
theorem Es.out {w2 w : World} {g cap : Nat} {V : List Int} (h : Es w2 w g cap V) (hl : V.length ≤ 4000) : Slc w (some ⟨g, 0, none⟩) V cap ∧ ∀ lo, Seg w lo (some ⟨g, 0, none⟩) V cap := by
  obtain ⟨R, hr, hR⟩ := h.r
  have hb : Bytes w (some ⟨g, 0, none⟩) V := by
    refine ⟨by omega, fun _ => ⟨g, 0, rfl, fun j hj => ?_⟩⟩
    rw [cell_of_block hr, Nat.zero_add, List.getElem?_toArray, List.getElem?_append_left (by simpa using hj)]
    exact bytes_at hj
  exact ⟨⟨hb, by omega, fun e => by cases e⟩, fun lo => ⟨hb, by omega, fun _ ad e => by cases e; exact .inr ⟨_, _, hr⟩⟩⟩
/-- A part of the value, as the source of a copy. -/
theorem src_of {w : World} {gb : Nat} {T : List Int} (hb : w.heap[gb]? = some (.cells (T.map (Value.int .u8)).toArray 5 (0, 0))) (s k : Nat) : ∀ j v, (((T.drop s).take k).map (Value.int .u8))[j]? = some v → w.cell? ((⟨gb, s, none⟩ : Addr).add j) = some v := by
  intro j v hv
  have e : (⟨gb, s, none⟩ : Addr).add j = ⟨gb, s + j, none⟩ := by unfold Addr.add; split <;> simp_all
  rw [e, cell_of_block hb, List.getElem?_toArray]
  rw [List.getElem?_map, List.getElem?_take] at hv
  split at hv
  · rw [List.getElem?_drop] at hv
    rw [List.getElem?_map]
    exact hv
  · cases hv
theorem madeRow (n : Nat) : ∃ cur : List Value, madeCells (Value.int .u8 0).cells n = cur.toArray ∧ cur.length = n := ⟨(madeCells (Value.int .u8 0).cells n).toList, by simp, by rw [Array.length_toList, size_madeCells]⟩
theorem make_run (n : Nat) (hn : n ≤ 140737488351232) : ∃ cur : List Value, cur.length = n ∧ ∀ w : World, (Instr.makeSlice 25 (.int .i64 0) (.int .i64 n)).run Tryz.prog w = .ok (.slice (some ⟨w.heap.size, 0, none⟩) 0 n) (w.alloc (.cells cur.toArray 5)) := by
  obtain ⟨i0, hi, hz0, hz1, hz2⟩ := info_parts Tryz.info5
  obtain ⟨cur, hcur, hcl⟩ := madeRow n
  refine ⟨cur, hcl, fun w => ?_⟩
  have hmk := run_make (P := Tryz.prog) w 25 5 i0 (.int .u8 0) Tryz.underlying25 hi hz0 .i64 .i64 0 (n : Int) (by omega) (by omega) (by rw [hz2]; omega) (by omega)
  rw [hz1, Nat.mul_one, Int.toNat_natCast, hcur] at hmk
  exact hmk
end Go.Proofs.YtfcedenofbefcaaGreatDoor
namespace Go.Proofs.YtfcedenofbefcaaGreatDoor
open Go.RowKit
set_option linter.unusedVariables false
set_option linter.unusedSimpArgs false
def EscPost (B0 : Nat) (w : World) (e : Ending) (w' : World) : Prop := (∃ A V c, e = .returned (.slice A V.length c) ∧ Slc w' A V c ∧ (∀ lo, Seg w' lo A V c) ∧ GoodVal V) ∧ Below B0 w w'
/-! EscapeAttrVal: what stands once the row is made. -/
structure Made (B0 : Nat) (w : World) (gp gb : Nat) (T : List Int) (n : Nat) (cur : List Value) (w3 : World) : Prop where
  run : ∀ w : World, (Instr.makeSlice 25 (.int .i64 0) (.int .i64 n)).run Tryz.prog w = .ok (.slice (some ⟨w.heap.size, 0, none⟩) 0 n) (w.alloc (.cells cur.toArray 5))
  p1 : (w.alloc (.cells cur.toArray 5)).cell? ⟨gp, 0, none⟩ = w.cell? ⟨gp, 0, none⟩
  f1 : (w.alloc (.cells cur.toArray 5)).frozen? ⟨gp, 0, none⟩ = false
  w3e : (w.alloc (.cells cur.toArray 5)).setCell ⟨gp, 0, none⟩ (.slice (some ⟨w.heap.size, 0, none⟩) 0 n) = w3
  below : Below B0 w w3
  kept : ∀ k, k < w.heap.size → k ≠ gp → w3.heap[k]? = w.heap[k]?
  b3 : w3.heap[gb]? = some (.cells (T.map (Value.int .u8)).toArray 5 (0, 0))
  p3 : w3.cell? ⟨gp, 0, none⟩ = some (.slice (some ⟨w.heap.size, 0, none⟩) 0 n)
  e3 : Es w3 w3 w.heap.size n []
theorem made_of {w : World} {gp gb g0 B0 : Nat} {T : List Int} (hp : w.heap[gp]? = some (.cells #[.slice (some ⟨g0, 0, none⟩) 0 0] 25 (0, 0))) (hb : w.heap[gb]? = some (.cells (T.map (Value.int .u8)).toArray 5 (0, 0)))
    (hne : gp ≠ gb) (hB1 : B0 ≤ gp) (hB2 : B0 ≤ w.heap.size) (n : Nat) (hn : n ≤ 140737488351232) : ∃ cur w3, Made B0 w gp gb T n cur w3 := by
  obtain ⟨cur, hcl, hmk⟩ := make_run n hn
  have hgb := lt_of_heap hb
  have hgp := lt_of_heap hp
  refine ⟨cur, _, hmk, ?_, ?_, rfl, ?_, ?_, ?_, ?_, ?_⟩
  · exact World.cell?_of_block (w := w) (Below.heap_alloc _ _ _ hgp)
  · exact frozen_of_block ((Below.heap_alloc _ _ _ hgp).trans hp) 0
  · exact ((Below.refl _ _).alloc hB2 _).setCell hB1 _
  · intro k hk h
    rw [heap_set_other _ (Ne.symm h)]
    exact Below.heap_alloc _ _ _ hk
  · rw [heap_set_other _ hne, Below.heap_alloc _ _ _ hgb]; exact hb
  · have := heap_set_same (i := 0) (.slice (some ⟨w.heap.size, 0, none⟩) 0 n) ((Below.heap_alloc w (.cells cur.toArray 5) _ hgp).trans hp)
    exact (cell_of_block this 0).trans rfl
  · refine Es.made ?_ hcl
    rw [heap_set_other _ (by omega)]
    exact heap_new _ _
/-- What stands once the first quote is laid. -/
structure Laid1 (w3 w : World) (gb g : Nat) (T : List Int) (n : Nat) (q : Int) (R : List Value) : Prop where
  c3 : ∃ v, w3.cell? ⟨g, 0, none⟩ = some v
  f3 : ∀ i, w3.frozen? ⟨g, i, none⟩ = false
  e4 : Es w3 (w3.setCell ⟨g, 0, none⟩ (.int .u8 q)) g n [q]
  r4 : (w3.setCell ⟨g, 0, none⟩ (.int .u8 q)).heap[g]? = some (.cells ([q].map (Value.int .u8) ++ R).toArray 5 (0, 0))
  l4 : 1 + R.length = n
  s4 : ∀ s k j v, (((T.drop s).take k).map (Value.int .u8))[j]? = some v → (w3.setCell ⟨g, 0, none⟩ (.int .u8 q)).cell? ((⟨gb, s, none⟩ : Addr).add j) = some v
theorem laid_of {w3 w : World} {gb g n : Nat} {T : List Int} (q : Int) (e : Es w3 w3 g n []) (hb : w3.heap[gb]? = some (.cells (T.map (Value.int .u8)).toArray 5 (0, 0))) (hg : g ≠ gb) (h0 : 0 < n) : ∃ R, Laid1 w3 w gb g T n q R := by
  have E4 := e.push (c := q) (j := 0) rfl h0
  rw [List.nil_append] at E4
  obtain ⟨R, hr, hl⟩ := E4.r
  exact ⟨R, e.at h0, e.frozen, E4, hr, hl, src_of (by rw [heap_set_other _ hg]; exact hb)⟩
theorem copy_five {w3 w5 w : World} {gb g n n1 : Nat} {T : List Int} {q : Int} {R : List Value} (h : Laid1 w3 w gb g T n q R) (en : n = T.length + 2) (em : n1 = T.length + 1) (g5 : w5.heap[g]? = some (.cells (splice ([q].map (Value.int .u8) ++ R) 1 (T.map (Value.int .u8))).toArray 5 (0, 0))) (b5 : Below g (w3.setCell ⟨g, 0, none⟩ (.int .u8 q)) w5) :
    Es w3 w5 g n ([q] ++ T) ∧ (∃ v, w5.cell? ⟨g, n1, none⟩ = some v) ∧ ∀ i, w5.frozen? ⟨g, i, none⟩ = false := by
  have E5 := h.e4.copy (Y := T) h.r4 g5 b5 (by simp; omega)
  exact ⟨E5, E5.at (by omega), E5.frozen⟩
theorem esc_done {w w3 w5 : World} {B0 g n n1 : Nat} {T : List Int} {q : Int} (en : n = T.length + 2) (em : n1 = T.length + 1) (h5 : T.length ≤ 500) (hk : Below B0 w w3) (hg : B0 ≤ g) (E : Es w3 w5 g n ([q] ++ T)) (hq : q = 34 ∨ q = 39) (hc : T.count q = 0) (hz : ∀ c ∈ T, c ≠ 0) :
    EscPost B0 w (.returned (.slice (some ⟨g, 0, none⟩) n n)) (w5.setCell ⟨g, n1, none⟩ (.int .u8 q)) := by
  have E6 := E.push (c := q) (j := n1) (by simp; omega) (by omega)
  have hV : n = ([q] ++ T ++ [q]).length := by simp; omega
  obtain ⟨o1, o2⟩ := E6.out (by omega)
  exact ⟨⟨_, [q] ++ T ++ [q], n, by rw [← hV], o1, o2, by rw [← hV]; omega, .inl ⟨q, T, hq, by simp, fun c h => ⟨count_zero_ne hc c h, hz c h⟩⟩⟩, hk.trans (E6.kept.mono hg)⟩
end Go.Proofs.YtfcedenofbefcaaGreatDoor
namespace Go.Proofs.YtfcedenofbefcaaGreatDoor
open Go.RowKit
set_option linter.unusedVariables false
set_option linter.unusedSimpArgs false
/-! EscapeAttrVal: the loop's plain side, the entities. -/
structure EI (T : List Int) (Q : Int) (n k st j : Nat) : Prop where
  sk : st ≤ k
  kl : k ≤ T.length
  en : n = T.length + 2 + 4 * T.count Q
  ej : j = (Q :: escQ Q (T.take st)).length
  eq : escQ Q (T.take k) = escQ Q (T.take st) ++ (T.drop st).take (k - st)
theorem EI.start {T : List Int} {Q : Int} {n : Nat} (h : n = T.length + 2 + 4 * T.count Q) : EI T Q n 0 0 1 := ⟨Nat.le_refl _, Nat.zero_le _, h, rfl, rfl⟩
theorem EI.jlen {T : List Int} {Q : Int} {n k st j : Nat} (h : EI T Q n k st j) : j = 1 + st + 4 * (T.take st).count Q := by
  have := h.ej
  have := h.sk
  have := h.kl
  rw [List.length_cons, escQ_len, List.length_take] at *
  omega
theorem cnt_take (T : List Int) (Q : Int) (k : Nat) : (T.take k).count Q ≤ T.count Q := (List.take_sublist k T).count_le Q
theorem EI.room {T : List Int} {Q : Int} {n k st j : Nat} (h : EI T Q n k st j) : j + (T.length - st) + 1 ≤ n := by
  have := h.jlen
  have := h.en
  have := h.sk
  have := h.kl
  have := cnt_take T Q st
  omega
theorem EI.skip {T : List Int} {Q : Int} {n k st j : Nat} (h : EI T Q n k st j) (hk : k < T.length) (hc : T.getD k 0 ≠ Q) : EI T Q n (k + 1) st j := by
  refine ⟨Nat.le_succ_of_le h.sk, hk, h.en, h.ej, ?_⟩
  have hs := h.sk
  rw [take_snoc hk, escQ_app, h.eq, show k + 1 - st = (k - st) + 1 by omega, take_snoc (by simp; omega), List.append_assoc]
  have e : (T.drop st).getD (k - st) 0 = T.getD k 0 := by rw [List.getD_eq_getElem?_getD, List.getElem?_drop, show st + (k - st) = k by omega, ← List.getD_eq_getElem?_getD]
  rw [e]
  congr 2
  exact escQ_none (by simpa using hc)
theorem escQ_one (Q : Int) : escQ Q [Q] = entE Q := by
  unfold escQ
  simp
theorem EI.mid {T : List Int} {Q : Int} {n k st j : Nat} (h : EI T Q n k st j) (hk : k < T.length) (hc : T.getD k 0 = Q) : Q :: escQ Q (T.take (k + 1)) = (Q :: escQ Q (T.take st)) ++ (T.drop st).take (k - st) ++ entE Q := by
  rw [take_snoc hk, escQ_app, h.eq, hc, escQ_one]
  simp
theorem EI.hit {T : List Int} {Q : Int} {n k st j : Nat} (h : EI T Q n k st j) (hk : k < T.length) (hc : T.getD k 0 = Q) : EI T Q n (k + 1) (k + 1) (j + (k - st) + 5) := by
  refine ⟨Nat.le_refl _, hk, h.en, ?_, by simp⟩
  rw [h.mid hk hc, List.length_append, List.length_append, ← h.ej, entE_len, List.length_take, List.length_drop]
  have := h.sk
  omega
theorem EI.done {T : List Int} {Q : Int} {n st j : Nat} (h : EI T Q n T.length st j) : (Q :: escQ Q (T.take st)) ++ T.drop st = Q :: escQ Q T := by
  have := h.eq
  have e : (T.drop st).take (T.length - st) = T.drop st := List.take_of_length_le (by rw [List.length_drop]; exact Nat.le_refl _)
  rw [List.take_length, e] at this
  rw [List.cons_append, ← this]
theorem EI.total {T : List Int} {Q : Int} {n k st j : Nat} (h : EI T Q n k st j) : (Q :: escQ Q T).length + 1 = n := by
  rw [List.length_cons, escQ_len, h.en]
  omega
/-- The entity's function. -/
def EntPost (Q : Int) (w : World) (e : Ending) (w' : World) : Prop := e = .returned (.slice (some ⟨w.heap.size, 0, none⟩) 5 5) ∧ (∃ f, w'.heap[w.heap.size]? = some (.cells ((entE Q).map (Value.int .u8)).toArray 5 f)) ∧ Below w.heap.size w w' ∧ w.heap.size < w'.heap.size
set_option maxHeartbeats 4000000 in
set_option maxRecDepth 100000 in
theorem Ent34_calls {w : World} : Calls Tryz.prog 79 #[] w (EntPost 34 w) := by
  have hcv := conv25g
  go_enter Tryz.func79, Tryz.ntmps79
  go_wp2_with fail
  go_ret
  exact ⟨rfl, ⟨_, heap_new _ _⟩, (Below.refl _ _).alloc (Nat.le_refl _) _, by simp⟩
set_option maxHeartbeats 4000000 in
set_option maxRecDepth 100000 in
theorem Ent39_calls {w : World} : Calls Tryz.prog 80 #[] w (EntPost 39 w) := by
  have hcv := conv25g
  go_enter Tryz.func80, Tryz.ntmps80
  go_wp2_with fail
  go_ret
  exact ⟨rfl, ⟨_, heap_new _ _⟩, (Below.refl _ _).alloc (Nat.le_refl _) _, by simp⟩
/-- One copy into the row. -/
theorem Es.copy2 {w2 w w1 : World} {g cap j : Nat} {X Y : List Int} {R : List Value} (h : Es w2 w g cap X) (hr : w.heap[g]? = some (.cells (X.map (Value.int .u8) ++ R).toArray 5 (0, 0))) (hj : j = X.length) (h1 : w1.heap[g]? = some (.cells (splice (X.map (Value.int .u8) ++ R) j (Y.map (Value.int .u8))).toArray 5 (0, 0))) (k : Below g w w1) (hl : j + Y.length ≤ cap) : Es w2 w1 g cap (X ++ Y) := by
  subst hj
  exact h.copy hr h1 k hl
theorem src_es {w3 w : World} {g gb n : Nat} {T X : List Int} (h : Es w3 w g n X) (hb : w3.heap[gb]? = some (.cells (T.map (Value.int .u8)).toArray 5 (0, 0))) (hg : gb < g) (s k : Nat) : ∀ j v, (((T.drop s).take k).map (Value.int .u8))[j]? = some v → w.cell? ((⟨gb, s, none⟩ : Addr).add j) = some v := src_of ((h.kept.block gb hg).trans hb) s k
theorem src_ent {w3 w : World} {g ge n : Nat} {X : List Int} {l : List Value} {f : Nat × Nat} (h : Es w3 w g n X) (he : w3.heap[ge]? = some (.cells l.toArray 5 f)) (hg : ge < g) : ∀ j v, l[j]? = some v → w.cell? ((⟨ge, 0, none⟩ : Addr).add j) = some v := by
  intro j v hv
  have e : (⟨ge, 0, none⟩ : Addr).add j = ⟨ge, j, none⟩ := by unfold Addr.add; split <;> simp_all
  rw [e, cell_of_block ((h.kept.block ge hg).trans he), List.getElem?_toArray]
  exact hv
end Go.Proofs.YtfcedenofbefcaaGreatDoor
namespace Go.Proofs.YtfcedenofbefcaaGreatDoor
open Go.RowKit
set_option linter.unusedVariables false
set_option linter.unusedSimpArgs false
/-! EscapeAttrVal: the numbers of a round, all of them before the walk. -/
structure HitF (T : List Int) (Q : Int) (n k st j m a b : Nat) : Prop where
  hm : k - st = m
  j0 : (j : Int) ≤ (n : Int)
  j1 : j < n
  j2 : ¬ j = n
  j3 : ¬ n = j
  s1 : (st : Int) ≤ (k : Int)
  s2 : ¬ st = T.length
  s3 : ¬ T.length = st
  s4 : st < T.length
  k2 : (k : Int) ≤ (T.length : Int)
  w1 : wrap64 ((j : Int) + (m : Int)) = (a : Int)
  w2 : IntKind.i64.wrap ((j : Int) + (m : Int)) = (a : Int)
  yl : ((T.drop st).take m).length = m
  mn : m = Nat.min m (n - j)
  f0 : j + m ≤ n
  j4 : (a : Int) ≤ (n : Int)
  j5 : a < n
  j6 : ¬ a = n
  j7 : ¬ n = a
  w3 : wrap64 ((a : Int) + 5) = (b : Int)
  w4 : (a : Int) + 5 = (b : Int)
  mn5 : 5 = Nat.min 5 (n - a)
  f5 : a + 5 ≤ n
  w5 : wrap64 ((k : Int) + 1) = ((k + 1 : Nat) : Int)
  ei : EI T Q n (k + 1) (k + 1) b
  ej : a = ((Q :: escQ Q (T.take st)) ++ (T.drop st).take m).length
  j8 : j = (Q :: escQ Q (T.take st)).length
  mid : (Q :: escQ Q (T.take st)) ++ (T.drop st).take m ++ entE Q = Q :: escQ Q (T.take (k + 1))
theorem hit_facts {T : List Int} {Q : Int} {n k st j : Nat} (h : EI T Q n k st j) (hk : k < T.length) (hc : T.getD k 0 = Q) (h5 : T.length ≤ 500) (hn : n ≤ 2600) : ∃ m a b, HitF T Q n k st j m a b := by
  have hs := h.sk
  have hr := h.room
  have hi := h.hit hk hc
  have hr2 := hi.room
  have hej := h.ej
  have hmid := (h.mid hk hc).symm
  have hyl : ((T.drop st).take (k - st)).length = k - st := by rw [List.length_take, List.length_drop]; omega
  refine ⟨k - st, j + (k - st), j + (k - st) + 5, rfl, by omega, by omega, by omega, by omega, by omega, by omega, by omega, by omega, by omega, ?_, ?_, hyl, ?_, by omega, by omega, by omega, by omega, by omega, ?_, by omega, ?_, by omega, ?_, hi, ?_, hej, hmid⟩
  · rw [wrap_small (by omega) (by omega)]; omega
  · rw [IntKind.wrap_i64]; omega
  · exact (Nat.min_eq_left (by omega)).symm
  · rw [wrap_small (by omega) (by omega)]; omega
  · exact (Nat.min_eq_left (by omega)).symm
  · rw [wrap_small (by omega) (by omega)]; omega
  · rw [List.length_append, hyl, ← hej]
/-- The last copy. -/
structure EndF (T : List Int) (Q : Int) (n st j m a : Nat) : Prop where
  hm : T.length - st = m
  j0 : (j : Int) ≤ (n : Int)
  j1 : j < n
  j2 : ¬ j = n
  j3 : ¬ n = j
  s1 : (st : Int) ≤ (T.length : Int)
  w1 : wrap64 ((j : Int) + (m : Int)) = (a : Int)
  w2 : IntKind.i64.wrap ((j : Int) + (m : Int)) = (a : Int)
  yl : ((T.drop st).take m).length = m
  mn : m = Nat.min m (n - j)
  f0 : j + m ≤ n
  j4 : (a : Int) < (n : Int)
  j5 : a < n
  e1 : a + 1 = n
  j9 : (a : Int) + 1 = (n : Int)
  w3 : wrap64 ((a : Int) + 1) = (n : Int)
  j8 : j = (Q :: escQ Q (T.take st)).length
  ej : a = (Q :: escQ Q T).length
  fin : (Q :: escQ Q (T.take st)) ++ (T.drop st).take m = Q :: escQ Q T
  aj : a = j + m
  wa : IntKind.i64.wrap (a : Int) = (a : Int)
theorem end_facts {T : List Int} {Q : Int} {n st j : Nat} (h : EI T Q n T.length st j) (h5 : T.length ≤ 500) (hn : n ≤ 2600) : ∃ m a, EndF T Q n st j m a := by
  have hs := h.sk
  have hr := h.room
  have hej := h.ej
  have hd := h.done
  have ht := h.total
  have htk : (T.drop st).take (T.length - st) = T.drop st := List.take_of_length_le (by rw [List.length_drop]; exact Nat.le_refl _)
  have hyl : ((T.drop st).take (T.length - st)).length = T.length - st := by rw [htk, List.length_drop]
  have hej2 : j + (T.length - st) = (Q :: escQ Q T).length := by rw [← hd, List.length_append, ← hej, List.length_drop]
  refine ⟨T.length - st, j + (T.length - st), rfl, by omega, by omega, by omega, by omega, by omega, ?_, ?_, hyl, ?_, by omega, by omega, by omega, by omega, by omega, ?_, hej, hej2, ?_, rfl, ?_⟩
  · rw [wrap_small (by omega) (by omega)]; omega
  · rw [IntKind.wrap_i64]; omega
  · exact (Nat.min_eq_left (by omega)).symm
  · rw [wrap_small (by omega) (by omega)]; omega
  · rw [htk]; exact hd
  · rw [IntKind.wrap_i64]; omega
theorem size5m : (Tryz.prog.info? 5).map (·.size) = some 1 := by kernel_rfl
theorem one_cells (Y : List Int) : ∀ v ∈ Y.map (Value.int .u8), v.oneCell' = true := by
  intro v hv
  obtain ⟨x, _, rfl⟩ := List.mem_map.mp hv
  rfl
theorem Es.row {w2 w : World} {g cap : Nat} {X : List Int} (h : Es w2 w g cap X) : ∃ R, w.heap[g]? = some (.cells (X.map (Value.int .u8) ++ R).toArray 5 (0, 0)) ∧ (X.map (Value.int .u8) ++ R).length = cap := by
  obtain ⟨R, hr, hR⟩ := h.r
  exact ⟨R, hr, by rw [List.length_append, List.length_map]; exact hR⟩
theorem esc_end {w wc w3 w6 : World} {B0 g n j : Nat} {T : List Int} {Q : Int} (hq : Q = 34 ∨ Q = 39) (hz : ∀ c ∈ T, c ≠ 0) (hn : n ≤ 2600) (hk : Below B0 w wc) (hk3 : Below B0 wc w3) (hg : B0 ≤ g) (E : Es w3 w6 g n (Q :: escQ Q T)) (hj : j = (Q :: escQ Q T).length) (hj1 : j + 1 = n) :
    EscPost B0 w (.returned (.slice (some ⟨g, 0, none⟩) n n)) (w6.setCell ⟨g, j, none⟩ (.int .u8 Q)) := by
  have E6 := E.push (c := Q) (j := j) hj (by omega)
  have hV : n = ((Q :: escQ Q T) ++ [Q]).length := by rw [List.length_append, ← hj]; exact hj1.symm
  obtain ⟨o1, o2⟩ := E6.out (by omega)
  exact ⟨⟨_, (Q :: escQ Q T) ++ [Q], n, by rw [← hV], o1, o2, by rw [← hV]; omega, .inl ⟨Q, escQ Q T, hq, rfl, escQ_good hq hz⟩⟩, hk.trans (hk3.trans (E6.kept.mono hg))⟩
end Go.Proofs.YtfcedenofbefcaaGreatDoor
