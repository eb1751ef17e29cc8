import Derived.Test.YtfcedenofbefcaaGreatDoorK6
import Derived.Laws.CopyOwn
import Derived.Laws.OwnMore
import Derived.Lib.SlBytesConst
import Derived.Laws.BytesString
import Derived.Laws.BytesArg
namespace Go.Proofs.YtfcedenofbefcaaGreatDoor
open Go.RowKit
set_option linter.unusedVariables false
set_option linter.unusedSimpArgs false
/-- A text as the machine's string. -/
def bstr (l : List Int) : ByteArray := ⟨(l.map fun n => UInt8.ofNat n.toNat).toArray⟩
theorem conv_bytes {w : World} {A : Option Addr} {T : List Int} {cp : Nat} (h : Bytes w A T) : (convert 25 9 (.slice A T.length cp)).run Tryz.prog w = .ok (.string (bstr T)) w := by
  rw [run_convert_bytes_string w 25 9 5 A T.length cp Tryz.underlying25 Tryz.underlying5 Tryz.underlying9]
  cases A with
  | none =>
    have : T = [] := by
      cases T with
      | nil => rfl
      | cons x l =>
        obtain ⟨b, o, e, _⟩ := h.cells (by simp)
        cases e
    subst this
    rfl
  | some a =>
    have hl : (loadCells a (T.map (Value.int .u8)).length).run Tryz.prog w = .ok (T.map (Value.int .u8)).toArray w := run_loadCells_list w a _ (fun j v hj => by
      have hjT : j < T.length := by
        rcases Nat.lt_or_ge j T.length with h' | h'
        · exact h'
        · rw [List.getElem?_eq_none (by simpa using h')] at hj; cases hj
      obtain ⟨b, o, e, hc⟩ := h.cells (by omega)
      cases e
      rw [bytes_at hjT] at hj
      cases hj
      have e : (⟨b, o, none⟩ : Addr).add j = ⟨b, o + j, none⟩ := by unfold Addr.add; split <;> simp_all
      rw [e]
      exact hc j hjT)
    rw [List.length_map] at hl
    rw [run_bytesToString w a T.length cp T hl, foldl_push_bytes]
    simp [bstr]
theorem row_bytes (l : List Int) (hl : l.length ≤ 140737488355328) {w : World} {f : Nat × Nat} : Bytes (w.alloc (.cells (l.map (Value.int .u8)).toArray 5 f)) (some ⟨w.heap.size, 0, none⟩) l := by
  refine ⟨hl, fun _ => ⟨_, _, rfl, fun j hj => ?_⟩⟩
  rw [cell_of_block (heap_new _ _), Nat.zero_add]
  simp only [List.getElem?_toArray]
  exact bytes_at hj
theorem conv25s (w : World) (C : Array Value) (n c : Nat) : (convert 25 25 (.slice (some ⟨w.heap.size, 0, none⟩) n c)).run Tryz.prog (w.alloc (.cells C 5)) = .ok (.slice (some ⟨w.heap.size, 0, none⟩) n c) (w.alloc (.cells C 5 (C.size, C.size + 1))) := Lib.run_convert_bytes_const w 25 5 C n c Tryz.underlying25 Tryz.underlying5
theorem lit_bytes (l : List Int) {w : World} {f : Nat × Nat} (hl : l.length ≤ 140737488355328 := by decide) : Bytes (w.alloc (.cells (l.map (Value.int .u8)).toArray 5 f)) (some ⟨w.heap.size, 0, none⟩) l := row_bytes l hl
def CopyPost (T : List Int) (w : World) (e : Ending) (w' : World) : Prop :=
  e = .returned (.slice (some ⟨w.heap.size, 0, none⟩) T.length T.length) ∧ w'.heap[w.heap.size]? = some (.cells (T.map (Value.int .u8)).toArray 5 (0, 0)) ∧ Below w.heap.size w w'
theorem Tryz.info5 : (Tryz.prog.info? 5).map (fun i => (i.zero, i.size, i.bytes)) = some (some (.int .u8 0), 1, 1) := by kernel_rfl
set_option maxHeartbeats 4000000 in
set_option maxRecDepth 100000 in
theorem parseCopy_calls {w : World} {A : Option Addr} {T : List Int} {cp : Nat} (h : Bytes w A T) :
    Calls Tryz.prog 54 #[.slice A T.length cp] w (CopyPost T w) := by
  have hlen := h.len
  obtain ⟨i0, hi, hz0, hz1, hz2⟩ := info_parts Tryz.info5
  have hmk := run_make (P := Tryz.prog) w 25 5 i0 (.int .u8 0) Tryz.underlying25 hi hz0 .i64 .i64 (T.length : Int) (T.length : Int) (by omega) (Int.le_refl _) (by rw [hz2]; omega) (by omega)
  rw [hz1, Nat.mul_one, Int.toNat_natCast] at hmk
  obtain ⟨cur, hcur, hcl⟩ : ∃ cur : List Value, madeCells (Value.int .u8 0).cells T.length = cur.toArray ∧ cur.length = T.length := ⟨(madeCells (Value.int .u8 0).cells T.length).toList, by simp, by rw [Array.length_toList, size_madeCells]⟩
  rw [hcur] at hmk
  have HL := Hd.mk hcl
  clear hcur hcl hi hz0 hz1 hz2
  have hnew : (w.alloc (.cells cur.toArray 5)).heap[w.heap.size]? = some (.cells cur.toArray 5 (0, 0)) := by show (w.heap.push _)[w.heap.size]? = _; simp
  have hbw : Below w.heap.size w (w.alloc (.cells cur.toArray 5)) := (Below.refl _ _).alloc (Nat.le_refl _) _
  have HN := Hd.mk hnew
  have HB := Hd.mk hbw
  have HS : Hd (0 < T.length → (some ⟨w.heap.size, 0, none⟩ : Option Addr) = some ⟨w.heap.size, 0, none⟩ ∧ ∃ ad, A = some ad ∧ ∀ j v, (T.map (Value.int .u8))[j]? = some v → (w.alloc (.cells cur.toArray 5)).cell? (ad.add j) = some v) := ⟨fun h0 => ⟨rfl, by
    obtain ⟨b, o, rfl, hc⟩ := h.cells h0
    refine ⟨_, rfl, fun j v hv => ?_⟩
    have hj : j < T.length := by
      rcases Nat.lt_or_ge j T.length with h' | h'
      · exact h'
      · rw [List.getElem?_eq_none (by simpa using h')] at hv; cases hv
    have e : v = .int .u8 (T.getD j 0) := by
      rw [List.getElem?_map, List.getElem?_eq_getElem hj] at hv
      rw [List.getD_eq_getElem?_getD, List.getElem?_eq_getElem hj]
      exact (Option.some.inj hv).symm
    have : (⟨b, o, none⟩ : Addr).add j = ⟨b, o + j, none⟩ := by unfold Addr.add; split <;> simp_all
    rw [this, e, ← hc j hj]
    exact World.cell?_alloc_lt _ _ _ (World.block_lt_of_cell? _ _ (hc j hj))⟩⟩
  clear hnew hbw
  go_enter Tryz.func54, Tryz.ntmps54
  go_wp2_with (refine wpList_copy_splice (o := ⟨some 8, _, _, _, _, _⟩) rfl (.tmp 6) (.tmp 7) 25 25 rfl 5 Tryz.underlying25 (by kernel_rfl) _ _ _ _ _ _ rfl rfl w.heap.size 0 cur 5 HN.out (T.map (Value.int .u8)) (by simp) (by rw [List.length_map]; exact HS.out) (by rw [List.length_map, HL.out]; omega) (by simp [Value.oneCell']) w.heap.size w HB.out (Nat.le_refl _) ?_; intro w1 g1 b1)
  go_ret
  refine ⟨rfl, ?_, b1⟩
  have := g1.out
  rwa [splice, List.take_zero, List.nil_append, List.drop_of_length_le (by rw [List.length_map, HL.out]; omega), List.append_nil] at this

theorem implCopy_calls {w : World} {A : Option Addr} {T : List Int} {cp : Nat} (h : Bytes w A T) :
    Calls Tryz.prog 24 #[.slice A T.length cp] w (CopyPost T w) := by
  go_enter Tryz.func24, Tryz.ntmps24
  go_wp2_with fail
  refine (parseCopy_calls h).mono ?_
  rintro e w1 ⟨rfl, h1, h2⟩
  have H1 := Hd.mk h1
  clear h1
  go_wp2_with fail
  go_ret
  exact ⟨rfl, H1.out, h2⟩

/-- The input is made: a block z that was not there, over the bytes with a zero behind them. -/
def NewPost (T : List Int) (B0 : Nat) (w : World) (e : Ending) (w' : World) : Prop :=
  ∃ z b c : Nat, e = .returned (.pointer (some ⟨z, 0, none⟩)) ∧ B0 ≤ z ∧ B0 ≤ b ∧ b ≠ z ∧ T.length + 1 ≤ c ∧ w.heap.size ≤ z ∧
    w'.heap[z]? = some (.cells #[.slice (some ⟨b, 0, none⟩) (T.length + 1) c, .int .i64 0, .int .i64 0, .nilIface, .nilFunc] 83 (0, 0)) ∧
    (∀ i, i < T.length + 1 → w'.cell? ⟨b, i, none⟩ = some (.int .u8 ((T ++ [0]).getD i 0))) ∧ Below B0 w w'
set_option maxHeartbeats 4000000 in
set_option maxRecDepth 100000 in
theorem NewInputBytes_calls {w : World} {g B0 : Nat} {T : List Int} (hB : B0 ≤ g) (hg : w.heap[g]? = some (.cells (T.map (Value.int .u8)).toArray 5 (0, 0))) (hlen : T.length ≤ 140737488355000) :
    Calls Tryz.prog 23 #[.slice (some ⟨g, 0, none⟩) T.length T.length] w (NewPost T B0 w) := by
  have hgl := lt_of_heap hg
  by_cases h0 : T.length = 0
  · obtain rfl := List.eq_nil_of_length_eq_zero h0
    simp only [List.length_nil]
    go_enter Tryz.func23, Tryz.ntmps23
    go_wp2
    go_ret
    refine ⟨w.heap.size + 1, w.heap.size + 1 + 1 + 1, 1, rfl, by omega, by omega, by omega, by simp, by omega, ?_, ?_, ?_⟩
    · refine (Below.heap_alloc _ _ _ (by simp)).trans ((Below.heap_alloc _ _ _ (by simp)).trans ?_)
      have := heap_new (w.alloc (Obj.cells #[Value.slice (some { block := g, off := 0 }) 0 0] 25)) (Obj.cells #[Value.slice (some { block := w.heap.size + 1 + 1 + 1, off := 0 }) 1 1, Value.int IntKind.i64 0, Value.int IntKind.i64 0, Value.nilIface, Value.nilFunc] 83)
      rwa [World.size_alloc] at this
    · intro i hi
      obtain rfl : i = 0 := by simp at hi; omega
      have := heap_new (((w.alloc (Obj.cells #[Value.slice (some { block := g, off := 0 }) 0 0] 25)).alloc (Obj.cells #[Value.slice (some { block := w.heap.size + 1 + 1 + 1, off := 0 }) 1 1, Value.int IntKind.i64 0, Value.int IntKind.i64 0, Value.nilIface, Value.nilFunc] 83)).alloc (Obj.cells #[Value.int IntKind.i64 0] 3)) (Obj.cells #[Value.int IntKind.u8 0] 5)
      simp only [World.size_alloc] at this
      exact (cell_of_block this 0).trans rfl
    · exact ((((Below.refl _ _).alloc (by omega) _).alloc (by simp; omega) _).alloc (by simp; omega) _).alloc (by simp; omega) _
  · have hz : ((T.length : Int) == 0) = false := by rw [beq_eq_false_iff_ne]; omega
    obtain ⟨i0, hi, hz0, hz1, hz2⟩ := info_parts Tryz.info5
    have HO : Hd (w.ownsRow B0 5 1 (.slice (some ⟨g, 0, none⟩) T.length T.length) T.length (T.map (Value.int .u8))) := ⟨⟨by simp, .inr ⟨g, T.length, _, rfl, hB, hg, Nat.le_refl _, by unfold maxLen; omega, by simp, by rw [List.take_of_length_le (by simp)]⟩⟩⟩
    clear hg
    go_enter Tryz.func23, Tryz.ntmps23
    go_wp2_with (at_builtin; refine wpList_append_own _ rfl _ _ 25 rfl B0 5 i0 (.int .u8 0) 1 1 Tryz.underlying25 hi hz0 hz1 hz2 rfl (by decide) _ _ _ rfl ((((HO.out.alloc _).alloc _).alloc _).alloc _) ⟨w.heap.size + 1 + 1 + 1, 0, none⟩ 1 1 [.int .u8 0] rfl rfl ?c1 ?c2 ?c3 ?c4 ?c5 ?_)
    case c1 =>
      intro j u hu
      obtain rfl : j = 0 := by
        rcases j with _ | j
        · rfl
        · simp at hu
      have := heap_new (((w.alloc (Obj.cells #[Value.slice (some { block := g, off := 0 }) T.length T.length] 25)).alloc (Obj.cells #[Value.slice (some { block := g, off := 0 }) T.length T.length, Value.int IntKind.i64 0, Value.int IntKind.i64 0, Value.nilIface, Value.nilFunc] 83)).alloc (Obj.cells #[Value.int IntKind.i64 T.length] 3)) (Obj.cells #[Value.int IntKind.u8 0] 5)
      simp only [World.size_alloc] at this
      exact (cell_of_block this 0).trans (by simpa using hu)
    case c2 => intro u hu; simp only [List.mem_singleton] at hu; subst hu; rfl
    case c3 => unfold maxLen; omega
    case c4 => omega
    case c5 => simp; omega
    intro v' w1 hown1 hgrow _
    have hzb : w1.heap[w.heap.size + 1]? = some (.cells #[Value.slice (some { block := g, off := 0 }) T.length T.length, Value.int IntKind.i64 0, Value.int IntKind.i64 0, Value.nilIface, Value.nilFunc] 83 (0, 0)) := by
      refine (hgrow.block _ (by simp only [World.size_alloc]; omega) (by simp [Value.ownBlock]; omega)).trans ?_
      refine (Below.heap_alloc _ _ _ (by simp)).trans ((Below.heap_alloc _ _ _ (by simp)).trans ?_)
      have := heap_new (w.alloc (Obj.cells #[Value.slice (some { block := g, off := 0 }) T.length T.length] 25)) (Obj.cells #[Value.slice (some { block := g, off := 0 }) T.length T.length, Value.int IntKind.i64 0, Value.int IntKind.i64 0, Value.nilIface, Value.nilFunc] 83)
      rwa [World.size_alloc] at this
    have hbel : Below B0 w w1 := by
      refine Below.grown (((((Below.refl B0 w).alloc (by omega) _).alloc (by simp; omega) _).alloc (by simp; omega) _).alloc (by simp; omega) _) hgrow (by simp; omega) ?_
      intro k hk
      simp [Value.ownBlock] at hk
      omega
    have hsz := hgrow.size
    simp only [World.size_alloc] at hsz
    have c0 := (cell_of_block hzb 0).trans rfl
    have f0 := frozen_of_block hzb 0
    have HZ := Hd.mk hzb
    have HB := Hd.mk hbel
    obtain ⟨hl, h⟩ := hown1
    rcases h with ⟨_, h⟩ | ⟨b, cap, cur, rfl, hb, hblk, hn, hcap, hcs, htk⟩
    · omega
    · have hbz : b ≠ w.heap.size + 1 := by
        rintro rfl
        rw [HZ.out] at hblk
        simp at hblk
      have HK := Hd.mk (And.intro hblk htk)
      clear hzb hbel hgrow hi hz0 hz1 hz2 hblk htk hcs hl
      go_wp2
      go_ret
      obtain ⟨hblk, htk⟩ := HK.out
      refine ⟨w.heap.size + 1, b, cap, rfl, by omega, hb, hbz, hn, by omega, ?_, ?_, HB.out.setCell (by simp; omega) _⟩
      · simpa using heap_set_same (i := 0) (Value.slice (some ⟨b, 0, none⟩) (T.length + 1) cap) HZ.out
      · intro i hi
        rw [World.cell?_setCell_other _ _ _ _ (by intro e; simp only [Addr.mk.injEq] at e; omega)]
        rw [cell_of_block hblk, ← Array.getElem?_toList]
        have : cur.toList[i]? = (cur.toList.take ((T.length + 1) * 1))[i]? := by rw [List.getElem?_take]; simp [hi]
        rw [this, htk]
        have : (T.map (Value.int .u8)) ++ [Value.int .u8 0] = (T ++ [0]).map (Value.int .u8) := by simp
        rw [this]
        exact bytes_at (by simpa using hi)
end Go.Proofs.YtfcedenofbefcaaGreatDoor
