/- FnHTMLValueRead: the value of an attribute that EscapeAttrVal writes is read by the HTML lexer as it is written, for every text, quotation mark and choice. -/
import Derived.Test.YtfcedenofbefcaaGreatDoorCards
import Derived.Test.YtfcedenofbefcaaGreatDoorTie
import Derived.Test.YtfcedenofbefcaaGreatDoorK3
import Derived.Lib.LaidTab
import Derived.ChangeVars
import Derived.WalkKit
import Derived.ProofKit
import Derived.OpenShut
import Derived.Deep.DeepHandedRow
import Derived.Lib.LaidU8
import Derived.Lib.LaidIn
import Derived.Stop.LaidErr
import Derived.Stop.ErrReads
import Derived.ChangeSlices
import Derived.Test.YtfcedenofbefcaaGreatDoorK4
import Derived.Deep.Slices
import Derived.Test.YtfcedenofbefcaaGreatDoorJ3
namespace Go.Proofs.YtfcedenofbefcaaGreatDoor
open Go.ChangeShapes Go.WideShapes Go.ChangeAt Go.RowKit
theorem Tryz.own : ownKnob Tryz.prog.godebug = none := by kernel_rfl
theorem Tryz.laidOut : laidOutB Tryz.pinned.checked.prog = true := by kernel_rfl
theorem Tryz.g0 : Tryz.prog.globalNamed "io.EOF" = some 0 := by kernel_rfl
theorem Tryz.y0 : (Tryz.prog.globals[0]?).map (·.type) = some 62 := by kernel_rfl
theorem Tryz.cells5 : Tryz.prog.cellsOf 5 = 1 := by kernel_rfl
theorem Tryz.cells9 : Tryz.prog.cellsOf 9 = 1 := by kernel_rfl
theorem Tryz.cells194 : Tryz.prog.cellsOf 194 = 1 := by kernel_rfl
theorem Tryz.star : "*" ++ "errors.errorString" = "*errors.errorString" := by decide
theorem Tryz.row179 (u : TypeId) (h : Tryz.prog.typeName? 3 u = some "*errors.errorString") : u = 179 :=
  typeName_ptr_named (nm := "errors.errorString") (by rw [Tryz.star]; kernel_rfl) (by kernel_rfl) (by decide) u (by rw [Tryz.star]; exact h)
theorem Tryz.g2 : Tryz.prog.globalNamed "loop.example/pub-g01476/pub/tdhtml._Hash_table" = some 2 := by kernel_rfl
theorem Tryz.y2 : (Tryz.prog.globals[2]?).map (·.type) = some 114 := by kernel_rfl
theorem Tryz.cells91 : Tryz.prog.cellsOf 91 = 1 := by kernel_rfl
theorem Tryz.cells114 : Tryz.prog.cellsOf 114 = 16 := by kernel_rfl
def laidListH : List (String × DataW Unit) := [("math/bits.deBruijn32tab", Rows.laid_math_bits_deBruijn32tab), ("math/bits.deBruijn64tab", Rows.laid_math_bits_deBruijn64tab), ("internal/strconv.uint64pow10", Rows.laid_internal_strconv_uint64pow10), ("io.EOF", Rows.laid_io_EOF), ("unicode.properties", Rows.laid_unicode_properties), ("loop.example/pub-g01476/pub/tdhtml._Hash_table", Rows.laid_loop_example_pub_g01476_pub_tdhtml_Hash_table)]
theorem hash_data : (Rows.laid_loop_example_pub_g01476_pub_tdhtml_Hash_table : DataW Unit) = Lib.tabData .u32 htab := by kernel_rfl
/-- What the rows' list gives. -/
theorem laid_eof {W : World} {L : List (String × DataW Unit)} {a b c : String × DataW Unit} (h : laidMet Tryz.prog (a :: b :: c :: ("io.EOF", Rows.laid_io_EOF) :: L) W) : ∃ EA, W.cell? ⟨0, 0, none⟩ = some (.iface 179 (.pointer (some EA))) := by
  have ht := laidMet.tail (laidMet.tail (laidMet.tail h))
  obtain ⟨a1, s1, hv1, -, -, -⟩ := laid_sentinel ht Tryz.g0 Tryz.y0 Tryz.underlying62 Tryz.row179 Tryz.underlying179 Tryz.underlying194 rfl rfl Tryz.underlying9 Tryz.cells194 Tryz.cells9
  exact ⟨a1, by simpa using World.var?_cell Tryz.g0 hv1 0⟩
theorem laid_hash {W : World} {L : List (String × DataW Unit)} (h : laidMet Tryz.prog L W) (hm : ("loop.example/pub-g01476/pub/tdhtml._Hash_table", (Rows.laid_loop_example_pub_g01476_pub_tdhtml_Hash_table : DataW Unit)) ∈ L) : HTab W := by
  obtain ⟨g, t, cs, fuel, p, hg, hty, hvar, hd⟩ := Lib.laidMet.reads h hm
  obtain rfl := Option.some.inj (Tryz.g2.symm.trans hg)
  obtain rfl := Option.some.inj (Tryz.y2.symm.trans hty)
  rw [hash_data] at hd
  have hcs := Lib.cells_of_tab Tryz.underlying114 Tryz.underlying91 Tryz.cells91 Tryz.cells114 hd
  refine ⟨fun i hi => ?_⟩
  have := World.var?_cell hg hvar i
  rw [this, ← Array.getElem?_toList, hcs, List.getElem?_map, List.getElem?_eq_getElem (by simpa [htab] using hi), List.getD_eq_getElem?_getD, List.getElem?_eq_getElem (by simpa [htab] using hi)]
  rfl
/-- A world for the witness. -/
abbrev eofS : ByteArray := { data := #[69, 79, 70] }
noncomputable def lowW : Nat := (World.holding Tryz.prog default ⟨#[], #[], []⟩).heap.size
def setBlock (h : Array Obj) (g : Nat) (cs : Array Value) : Array Obj := h.modify g fun
  | .cells _ t frozen => .cells cs t frozen
  | o => o
/-- The cells of a table of numbers or truths. -/
def tabCells : DataW Unit → Array Value
  | .agg l => (l.map fun | .lit (.int k n) => Value.int k n | .lit (.bool b) => .bool b | _ => .bool false).toArray
  | _ => #[]
noncomputable def laidWorld (os : Os) : World :=
  let w0 := World.holding Tryz.prog os ⟨#[.cells #[.string eofS] 194], #[], []⟩
  { w0 with heap := setBlock (setBlock (setBlock (setBlock (setBlock (setBlock (setBlock w0.heap 0 #[.iface 179 (.pointer (some ⟨lowW, 0, none⟩))]) 1 (tabCells Rows.laid_loop_example_pub_g01476_pub_tdhtml_charTable)) 2 (tabCells Rows.laid_loop_example_pub_g01476_pub_tdhtml_Hash_table)) 3 (tabCells Rows.laid_unicode_properties)) 6 (tabCells Rows.laid_internal_strconv_uint64pow10)) 7 (tabCells Rows.laid_math_bits_deBruijn32tab)) 8 (tabCells Rows.laid_math_bits_deBruijn64tab) }
theorem laid_inH (os : Os) (args : Array Value) : LaidIn Tryz.prog ((laidWorld os).forCall (fun _ _ => 0) ⟨#[], args, []⟩).memory laidListH [0, 2, 3, 6, 7, 8, lowW] :=
  LaidIn.of_run [0, 2, 3, 6, 7, 8, lowW] 8 (by kernel_rfl) (by kernel_rfl) (by kernel_rfl) (by kernel_rfl)
/-- A named variable whose block is as it was reads as it did. -/
theorem var_kept {H : Type} {enc : TypeId × Value → H} {W W' : World} {n : String} {g : Nat} {t : TypeId} {cs : Array Value} {d : DataW H} {fuel : Nat} {p : List MemPlace} (hg : Tryz.prog.globalNamed n = some g) (ht : (Tryz.prog.globals[g]?).map (·.type) = some t) (hv : W.var? Tryz.prog n = some cs)
    (hd : DataW.trod enc Tryz.prog W 0 (fun _ => true) true fuel t cs.toList = some (d, p)) (hr : Tryz.prog.readableRec t = true) (hrow : t < Tryz.prog.types.size) (hlt : ∀ x ∈ p, x.block < W.heap.size) (hgl : g < W.heap.size) (hn : Below W.heap.size W W') :
    DataW.TrodVars enc Tryz.prog W' (fun b => decide (b < W.heap.size)) [n] [d] (MemPlace.row ⟨g, 0, none⟩ cs.size ++ p) := by
  have h0 : DataW.Trod enc Tryz.prog W 0 (fun _ => true) true t (.agg cs) d p := ⟨fuel, hd⟩
  obtain ⟨fuel', hf⟩ := Below.trod Tryz.laidOut hr hrow h0 hn hlt
  refine trodVars_mk1 hg ht ?_ hf
  rw [← hv]
  unfold World.var?
  simp only [hg, Option.bind_some, hn.block g hgl]
end Go.Proofs.YtfcedenofbefcaaGreatDoor
namespace Go.Proofs.YtfcedenofbefcaaGreatDoor
open Go.ChangeShapes Go.WideShapes Go.ChangeAt Go.RowKit
set_option linter.unusedVariables false
set_option linter.unusedSimpArgs false
theorem Tryz.bytes5 : Tryz.prog.bytesOf 5 = 1 := by kernel_rfl
def isU8 (T : List Int) : Prop := ∀ j, j < T.length → 0 ≤ T.getD j 0 ∧ T.getD j 0 < 256

set_option maxRecDepth 100000 in
theorem bytes_in2 {H : Type} {enc : TypeId × Value → H} {W : World} {base : Nat} {v0 : Value} {d0 : DataW H} {p : List MemPlace} (hv : Value.okWide Tryz.prog W .any base 25 v0) (h0 : DataW.Trod enc Tryz.prog W 0 (fun _ => true) true 25 v0 d0 p) (hw : (DataW.weights Tryz.prog 25 d0).all (· ≤ reachBytes) = true) :
    ∃ (A : Option Addr) (T : List Int) (cp : Nat), v0 = .slice A T.length cp ∧ Bytes W A T ∧ (∀ ad, A = some ad → ad.block < W.heap.size) ∧ isU8 T ∧ T.length ≤ cp ∧ (A = none → cp = 0) := by
  obtain ⟨a0, len, cap, rfl⟩ := okWide_slice Tryz.underlying25 hv
  obtain ⟨fuel, hf⟩ := h0
  rcases open_ints Tryz.underlying25 Tryz.underlying5 Tryz.cells5 hf with ⟨hcs, hx⟩ | ⟨a, len', cap', zs, hcs, _, hl, hm, hz, hx, hcell, hwz⟩
  · simp [Value.cells] at hcs
    obtain ⟨rfl, rfl, rfl⟩ := hcs
    refine ⟨none, [], 0, rfl, ⟨by decide, fun h => absurd h (by decide)⟩, ⟨fun ad e => (nomatch e), fun j hj => absurd hj (by simp), Nat.le_refl _, fun _ => rfl⟩⟩
  · simp [Value.cells] at hcs
    obtain ⟨rfl, rfl, rfl⟩ := hcs
    simp only [if_true] at hz
    have hlen : (zs.take len).length = len := by rw [List.length_take]; omega
    have hsz : zs.length ≤ 140737488351232 := by
      have hx1 := congrArg Prod.fst hx
      dsimp only at hx1
      rw [hx1] at hw
      simp only [DataW.weights, Tryz.underlying25, Tryz.bytes5, List.cons_append, List.all_cons, Bool.and_eq_true, decide_eq_true_eq, lits, List.length_map, List.length_take, List.length_drop, Nat.mul_one] at hw
      have := hw.1
      unfold reachBytes at this
      omega
    have hin : a.block < W.heap.size := by
      simp only [Value.okWide, Tryz.underlying25, Cell.okWide, Cell.ok] at hv
      obtain ⟨_, _, _, _, row, cells, hs, _⟩ := hv
      rcases Nat.lt_or_ge a.block W.heap.size with h | h
      · exact h
      · simp [World.shape?, Array.getElem?_eq_none h] at hs
    have hspot : a.spot = none := by
      simp only [Value.okWide, Tryz.underlying25, Cell.okWide, Cell.ok] at hv
      exact hv.2.2.2.1
    obtain ⟨b, off, spot⟩ := a
    simp only at hspot
    subst hspot
    have hget : ∀ j, j < len → (zs.take len).getD j 0 = zs.getD j 0 := fun j hj => by
      rw [List.getD_eq_getElem?_getD, List.getD_eq_getElem?_getD, List.getElem?_take, if_pos hj]
    refine ⟨some ⟨b, off, none⟩, zs.take len, cap, by rw [hlen], ⟨by rw [hlen]; omega, fun _ => ⟨b, off, rfl, fun j hj => ?_⟩⟩, fun ad e => by cases e; exact hin, fun j hj => ?_, by rw [hlen]; exact hl, fun e => by cases e⟩
    · rw [hlen] at hj
      rw [hget j hj]
      have := hcell j (by omega)
      have e : (⟨b, off, none⟩ : Addr).add j = ⟨b, off + j, none⟩ := by unfold Addr.add; split <;> simp_all
      rw [e] at this
      exact this
    · rw [hlen] at hj
      rw [hget j hj]
      have hm' : zs.getD j 0 ∈ zs := by
        rw [List.getD_eq_getElem?_getD, List.getElem?_eq_getElem (by omega : j < zs.length)]
        exact List.getElem_mem _
      have := hwz _ hm'
      generalize zs.getD j 0 = x at this
      simp [Lit.wf, IntKind.min, IntKind.max, IntKind.signed, IntKind.bits] at this
      omega
end Go.Proofs.YtfcedenofbefcaaGreatDoor
namespace Go.Proofs.YtfcedenofbefcaaGreatDoor
open Go.ChangeShapes Go.WideShapes Go.ChangeAt Go.RowKit
theorem Tryz.g1 : Tryz.prog.globalNamed "loop.example/pub-g01476/pub/tdhtml.charTable" = some 1 := by kernel_rfl
theorem Tryz.y1 : (Tryz.prog.globals[1]?).map (·.type) = some 95 := by kernel_rfl
theorem Tryz.cells4 : Tryz.prog.cellsOf 4 = 1 := by kernel_rfl
theorem Tryz.cells95 : Tryz.prog.cellsOf 95 = 256 := by kernel_rfl
def boolData {H : Type} (l : List Bool) : DataW H := .agg (l.map fun b => .lit (.bool b))
/-- An array of truths that reads as a table holds the table's truths, cell for cell. -/
theorem cells_of_bools {H : Type} {enc : TypeId × Value → H} {P : Program} {w : World} {base : Nat} {sp : Nat → Bool} {held : Bool} {fuel : Nat} {t e : TypeId} {n : Nat} {cs : List Value} {l : List Bool} {p : List MemPlace}
    (ht : P.underlying t = some (.array n e)) (he : P.underlying e = some .bool) (hce : P.cellsOf e = 1) (hct : P.cellsOf t = n)
    (h : DataW.trod enc P w base sp held fuel t cs = some (boolData l, p)) (i : Nat) (hi : i < l.length) : cs[i]? = some (.bool (l.getD i false)) := by
  cases fuel with
  | zero => simp [DataW.trod] at h
  | succ fuel =>
    simp only [DataW.trod, ht, hce, hct, Nat.mul_one] at h
    split at h
    · obtain ⟨xs, hm, hx⟩ := Option.map_eq_some_iff.1 h
      have hxs : xs.map (·.1) = l.map fun z => (DataW.lit (.bool z) : DataW H) := by
        have := congrArg Prod.fst hx
        simpa [boolData] using this
      have hxl : xs.length = n := by simpa using Lib.mapM_length hm
      have hzl : l.length = n := by
        have := congrArg List.length hxs
        simp at this
        omega
      obtain ⟨b, hb, hf⟩ := Lib.mapM_at hm i i (by simp [hzl ▸ hi])
      obtain ⟨z, hc, rfl⟩ := DataW.trod_bool he hf
      have h1 : cs[i]? = some (.bool z) := by
        have := congrArg (·[0]?) hc
        simpa [List.getElem?_take, List.getElem?_drop] using this
      have h2 : (xs.map (·.1))[i]? = some (DataW.lit (.bool z) : DataW H) := by simp [hb]
      rw [hxs] at h2
      simp only [List.getElem?_map, Option.map_eq_some_iff, DataW.lit.injEq, Lit.bool.injEq] at h2
      obtain ⟨z', hz', rfl⟩ := h2
      rw [h1, List.getD_eq_getElem?_getD, hz']
      rfl
    · cases h
def charL : List Bool := (List.range 256).map fun c : Nat => ctab (c : Int)
theorem char_data : (Rows.laid_loop_example_pub_g01476_pub_tdhtml_charTable : DataW Unit) = boolData charL := by kernel_rfl
theorem laid_char {W : World} {L : List (String × DataW Unit)} (h : laidMet Tryz.prog L W) (hm : ("loop.example/pub-g01476/pub/tdhtml.charTable", (Rows.laid_loop_example_pub_g01476_pub_tdhtml_charTable : DataW Unit)) ∈ L) : CTab W := by
  obtain ⟨g, t, cs, fuel, p, hg, hty, hvar, hd⟩ := Lib.laidMet.reads h hm
  obtain rfl := Option.some.inj (Tryz.g1.symm.trans hg)
  obtain rfl := Option.some.inj (Tryz.y1.symm.trans hty)
  rw [char_data] at hd
  have hcs := cells_of_bools Tryz.underlying95 Tryz.underlying4 Tryz.cells4 Tryz.cells95 hd
  refine ⟨fun c h0 h1 => ?_⟩
  have hlen : charL.length = 256 := by unfold charL; rw [List.length_map, List.length_range]
  have hc : c.toNat < 256 := by omega
  have := World.var?_cell hg hvar c.toNat
  rw [this, ← Array.getElem?_toList, hcs c.toNat (by rw [hlen]; exact hc)]
  congr 2
  unfold charL
  rw [List.getD_eq_getElem?_getD, List.getElem?_map, List.getElem?_range hc]
  show ctab (c.toNat : Int) = ctab c
  rw [Int.toNat_of_nonneg h0]
def laidListV : List (String × DataW Unit) := [("math/bits.deBruijn32tab", Rows.laid_math_bits_deBruijn32tab), ("math/bits.deBruijn64tab", Rows.laid_math_bits_deBruijn64tab), ("internal/strconv.uint64pow10", Rows.laid_internal_strconv_uint64pow10), ("io.EOF", Rows.laid_io_EOF), ("unicode.properties", Rows.laid_unicode_properties), ("loop.example/pub-g01476/pub/tdhtml._Hash_table", Rows.laid_loop_example_pub_g01476_pub_tdhtml_Hash_table), ("loop.example/pub-g01476/pub/tdhtml.charTable", Rows.laid_loop_example_pub_g01476_pub_tdhtml_charTable)]
theorem laid_inV (os : Os) (args : Array Value) : LaidIn Tryz.prog ((laidWorld os).forCall (fun _ _ => 0) ⟨#[], args, []⟩).memory laidListV [0, 1, 2, 3, 6, 7, 8, lowW] :=
  LaidIn.of_run [0, 1, 2, 3, 6, 7, 8, lowW] 8 (by kernel_rfl) (by kernel_rfl) (by kernel_rfl) (by kernel_rfl)
theorem vars_both {H : Type} {enc : TypeId × Value → H} {P : Program} {w : World} {sp : Nat → Bool} {n0 n1 : String} {d0 d1 : DataW H} {p0 p1 : List MemPlace} (h0 : DataW.TrodVars enc P w sp [n0] [d0] p0) (h1 : DataW.TrodVars enc P w sp [n1] [d1] p1) : DataW.TrodVars enc P w sp [n0, n1] [d0, d1] (p0 ++ p1) := by
  obtain ⟨g, t, cs, fuel, p, q, a1, a2, a3, a4, hs, e⟩ := h0
  have hq : q = [] := hs
  subst hq
  refine ⟨g, t, cs, fuel, p, p1, a1, a2, a3, a4, h1, ?_⟩
  rw [e, List.append_nil]
theorem isU8_mem {T : List Int} (h : isU8 T) : ∀ c ∈ T, 0 ≤ c ∧ c < 256 := fun c hc => by
  obtain ⟨i, hi, rfl⟩ := List.mem_iff_getElem.mp hc
  have := h i hi
  rwa [List.getD_eq_getElem?_getD, List.getElem?_eq_getElem hi] at this
end Go.Proofs.YtfcedenofbefcaaGreatDoor
namespace Go.Proofs.YtfcedenofbefcaaGreatDoor.fnHTMLValueRead
open Go.ChangeShapes Go.WideShapes Go.ChangeAt Go.RowKit
theorem bool4 : Tryz.prog.underlying 4 = some .bool := Tryz.underlying4
set_option maxHeartbeats 2000000 in
set_option maxRecDepth 100000 in
theorem contract (H : Type) (enc : TypeId × Value → H) (W : World) (base : Nat) (args : Array Value) (ds gs : List (DataW H)) (before : List MemPlace)
    (hval : ∀ (j : Nat) t v, Tryz.f6.params[j]? = some t → args[j]? = some v → Value.okWide Tryz.prog W .any base t v)
    (hW : DataW.Whole enc Tryz.prog Tryz.f6.params.toList Rows.fnHTMLValueReadSpec.vars false W args.toList ds gs before)
    (hz : (DataW.weightsEach Tryz.prog (Tryz.f6.params.toList ++ (OpenSpec.ofChange Rows.fnHTMLValueReadSpec).bare.plain.varTypes Tryz.prog) (ds ++ gs)).all (· ≤ reachBytes) = true) (hL : laidMetH Tryz.prog Rows.fnHTMLValueReadRow.laid W) :
    Calls Tryz.prog 6 args W fun e W' => ∃ v, e = .returned v ∧ Rows.fnHTMLValueReadSpec.post enc Tryz.prog Tryz.f6 false true false false W args v W' := by
  have hW' := hW
  obtain ⟨p, q, hA0, hV, rfl, hfz, hnd⟩ := hW
  have hA : DataW.TrodAll enc Tryz.prog W 0 (fun _ => true) true Tryz.f6.params.toList args.toList ds p := hA0
  rw [Tryz.params6] at hA hval hz
  obtain ⟨v0, v1, v2, d0, d1, d2, p0, p1, p2, rfl, rfl, rfl, h0, h1, h2⟩ := trodAll_three hA
  obtain ⟨ga, ta, csa, fa, da, pa, gb, tb, csb, fb, db, pb, rfl, hga, hta, hva, hda, hgb, htb, hvb, hdb, rfl⟩ := trodVars_two hV
  obtain rfl := Option.some.inj (Tryz.g1.symm.trans hga)
  obtain rfl := Option.some.inj (Tryz.y1.symm.trans hta)
  obtain rfl := Option.some.inj (Tryz.g2.symm.trans hgb)
  obtain rfl := Option.some.inj (Tryz.y2.symm.trans htb)
  have h0k := h0
  have h1k := h1
  have h2k := h2
  clear hA0
  have hlt : ∀ x ∈ p0 ++ p1 ++ p2, x.block < W.heap.size := fun x hx => hW'.lt x (List.mem_append_left _ hx)
  have hlta : ∀ x ∈ pa, x.block < W.heap.size := fun x hx => hW'.lt x (List.mem_append_right _ (List.mem_append_left _ (List.mem_append_right _ hx)))
  have hltb : ∀ x ∈ pb, x.block < W.heap.size := fun x hx => hW'.lt x (List.mem_append_right _ (List.mem_append_right _ (List.mem_append_right _ hx)))
  have hLm : laidMet Tryz.prog laidListV W := hL
  have hT : HTab W := laid_hash hLm (by simp [laidListV])
  have hC : CTab W := laid_char hLm (by simp [laidListV])
  have hgl2 : 2 < W.heap.size := World.block_lt_of_cell? _ _ (hT.cells 0 (by decide))
  have hgl1 : 1 < W.heap.size := Nat.lt_trans (by decide) hgl2
  have hargs0 : ∀ (W' : World), Below W.heap.size W W' → DataW.Trod enc Tryz.prog W' 0 (fun b => decide (b < W.heap.size)) true 25 v0 d0 p0 :=
    fun W' hn => Below.trod Tryz.laidOut (by kernel_rfl) (of_decide_eq_true (by kernel_rfl)) h0k hn (fun x hx => hlt x (List.mem_append_left _ (List.mem_append_left _ hx)))
  have hargs1 : ∀ (W' : World), Below W.heap.size W W' → DataW.Trod enc Tryz.prog W' 0 (fun b => decide (b < W.heap.size)) true 4 v1 d1 p1 :=
    fun W' hn => Below.trod Tryz.laidOut (by kernel_rfl) (of_decide_eq_true (by kernel_rfl)) h1k hn (fun x hx => hlt x (List.mem_append_left _ (List.mem_append_right _ hx)))
  have hargs2 : ∀ (W' : World), Below W.heap.size W W' → DataW.Trod enc Tryz.prog W' 0 (fun b => decide (b < W.heap.size)) true 4 v2 d2 p2 :=
    fun W' hn => Below.trod Tryz.laidOut (by kernel_rfl) (of_decide_eq_true (by kernel_rfl)) h2k hn (fun x hx => hlt x (List.mem_append_right _ hx))
  obtain ⟨x, rfl⟩ := okWide_bool bool4 (hval 1 4 v1 (by simp) (by simp))
  obtain ⟨y, rfl⟩ := okWide_bool bool4 (hval 2 4 v2 (by simp) (by simp))
  obtain ⟨A, T, cp, rfl, hB, hAb, hU, hcp, hn1⟩ := bytes_in2 (hval 0 25 v0 (by simp) (by simp)) h0 (by
    simp only [List.cons_append, List.nil_append, DataW.weightsEach, List.all_append, Bool.and_eq_true] at hz
    exact hz.1)
  obtain ⟨EA, hE⟩ := laid_eof hLm
  have walk : Calls Tryz.prog 6 #[.slice A T.length cp, .bool x, .bool y] W fun e w' => e = .returned (.bool true) ∧ Below W.heap.size W w' := FnHTMLValueRead_calls x y hE hT hC hgl1 ⟨hB, hcp, hn1⟩ (isU8_mem hU)
  refine walk.mono fun e W' ⟨he, hn⟩ => ?_
  subst he
  exact ⟨_, rfl, ⟨_, _, _, [], _, _, hW', trodAll_mk1 (shut_bool bool4 _), trodAll_mk3 (hargs0 _ hn) (hargs1 _ hn) (hargs2 _ hn), vars_both (var_kept hga hta hva hda (by kernel_rfl) (of_decide_eq_true (by kernel_rfl)) hlta hgl1 hn) (var_kept hgb htb hvb hdb (by kernel_rfl) (of_decide_eq_true (by kernel_rfl)) hltb hgl2 hn), hn.frame _, fun h => by cases h⟩⟩
theorem reads (os : Os) {H : Type} (enc : TypeId × Value → H) : ∃ places, DataW.whole enc Tryz.prog ((laidWorld os).forCall (fun _ _ => 0) ⟨#[], #[.slice none 0 0, .bool false, .bool false], []⟩).memory Tryz.f6.params.toList Rows.fnHTMLValueReadSpec.vars false #[Value.slice none 0 0, Value.bool false, Value.bool false].toList 8 = some ([.nil, .lit (.bool false), .lit (.bool false)], [Rows.laid_loop_example_pub_g01476_pub_tdhtml_charTable, Rows.laid_loop_example_pub_g01476_pub_tdhtml_Hash_table], places) :=
  ⟨MemPlace.row ⟨1, 0, none⟩ 256 ++ MemPlace.row ⟨2, 0, none⟩ 16, by kernel_rfl⟩
set_option maxRecDepth 100000 in
theorem lifted (os : Os) (started : os.Started) (H : Type) (enc : TypeId × Value → H) (F : Stop.Interp) :
    ReturnsInHanded {} Tryz.checked os 6 .any ((OpenSpec.ofChange Rows.fnHTMLValueReadSpec).preRow enc Tryz.prog Tryz.f6 Rows.fnHTMLValueReadRow.domain false Rows.fnHTMLValueReadRow.laid) (((OpenSpec.ofChange Rows.fnHTMLValueReadSpec).at F).post enc Tryz.prog Tryz.f6 false true false false) := by
  obtain ⟨places, hx⟩ := reads os enc
  refine returnsInHanded_of_row (C := Tryz.checked) (s := OpenSpec.ofChange Rows.fnHTMLValueReadSpec) Tryz.own started (by kernel_rfl) Tryz.func6
    (witness_row_at (enc := enc) (C := Tryz.checked) false (laidWorld os) #[.slice none 0 0, .bool false, .bool false] rfl (by kernel_rfl) (by kernel_rfl) (by kernel_rfl)
      (OpenSpec.preRow_of_cond 8 hx (by kernel_rfl) (fun k hk => by cases hk) (by kernel_rfl) (show laidMet Tryz.prog laidListV _ from (laid_inV os _).met))) ?_
  intro W base args ds gs before hval hW _ _ hz hL _ _
  exact contract H enc W base args ds gs before hval hW hz hL
theorem said : Rows.FnHTMLValueReadSaid :=
  OpenClaim.holds_of_cond 6 Tryz.f6 rfl rfl rfl rfl rfl rfl rfl ⟨rfl, rfl, rfl, rfl, rfl⟩ rfl rfl rfl rfl rfl (by kernel_rfl) Tryz.func6 (by kernel_rfl)
    (of_decide_eq_true (by kernel_rfl)) (by unfold Func.isWrapper; first | (rw [if_pos (by decide +kernel)]; kernel_rfl) | (rw [if_neg (by decide +kernel)]; exact ⟨rfl, rfl⟩))
    (fun os started H enc _ F => by rw [OpenClaim.pre_eq_preRow]; exact lifted os started H enc F)
theorem plain (f : FuncId) (fn : Func) (hf : Tryz.pinned.checked.prog.funcNamed "loop.example/pub-g01476/laws.FnHTMLValueRead" = some f) (hfn : Tryz.pinned.checked.prog.funcs[f]? = some fn) :
    true = Tryz.pinned.checked.prog.looks [] ∧ ∀ (j : Nat) t, fn.params[j]? = some t → Tryz.pinned.checked.prog.wantsStandIn t = false := by
  obtain rfl : f = 6 := Option.some.inj ((show Tryz.prog.funcNamed "loop.example/pub-g01476/laws.FnHTMLValueRead" = some 6 by kernel_rfl).symm.trans hf) |>.symm
  obtain rfl : fn = Tryz.f6 := (Option.some.inj (Tryz.func6.symm.trans hfn)).symm
  refine ⟨by kernel_rfl, fun j t ht => ?_⟩
  rw [Tryz.params6] at ht
  have h2 : t = 25 ∨ t = 4 := by simpa using Array.mem_of_getElem? ht
  rcases h2 with rfl | rfl
  · exact (show Tryz.prog.wantsStandIn 25 = false by kernel_rfl)
  · exact (show Tryz.prog.wantsStandIn 4 = false by kernel_rfl)
theorem card : Rows.FnHTMLValueReadCardSaid :=
  Claim7.holds_tied_plain_at .later [] _ _ _ _ said (fun _ h => by cases h) (by kernel_rfl) (fun _ h => by cases h) fnHTMLValueRead_row_tie rfl ⟨rfl, rfl⟩ (by kernel_rfl) rfl plain (by kernel_rfl)
end Go.Proofs.YtfcedenofbefcaaGreatDoor.fnHTMLValueRead
namespace Go.Proofs.YtfcedenofbefcaaGreatDoor
theorem fnHTMLValueRead_holds : Rows.FnHTMLValueReadCardSaid := fnHTMLValueRead.card
end Go.Proofs.YtfcedenofbefcaaGreatDoor
#print axioms Go.Proofs.YtfcedenofbefcaaGreatDoor.fnHTMLValueRead_holds
