/- FnHTML: what the HTML lexer tells of a document's text is what is due of the document, for every list of items. -/
import Derived.Test.YtfcedenofbefcaaGreatDoorR3
import Derived.Test.YtfcedenofbefcaaGreatDoorV2
namespace Go.Proofs.YtfcedenofbefcaaGreatDoor.fnHTML
open Go.ChangeShapes Go.WideShapes Go.ChangeAt Go.RowKit
theorem bool4 : Tryz.prog.underlying 4 = some .bool := Tryz.underlying4
set_option maxHeartbeats 2000000 in
set_option maxRecDepth 100000 in
theorem contract (H : Type) (enc : TypeId × Value → H) (W : World) (base : Nat) (args : Array Value) (ds gs : List (DataW H)) (before : List MemPlace)
    (hval : ∀ (j : Nat) t v, Tryz.f4.params[j]? = some t → args[j]? = some v → Value.okWide Tryz.prog W .any base t v)
    (hW : DataW.Whole enc Tryz.prog Tryz.f4.params.toList Rows.fnHTMLSpec.vars false W args.toList ds gs before)
    (hz : (DataW.weightsEach Tryz.prog (Tryz.f4.params.toList ++ (OpenSpec.ofChange Rows.fnHTMLSpec).bare.plain.varTypes Tryz.prog) (ds ++ gs)).all (· ≤ reachBytes) = true) (hL : laidMetH Tryz.prog Rows.fnHTMLRow.laid W) :
    Calls Tryz.prog 4 args W fun e W' => ∃ v, e = .returned v ∧ Rows.fnHTMLSpec.post enc Tryz.prog Tryz.f4 false true false false W args v W' := by
  have hW' := hW
  obtain ⟨p, q, hA0, hV, rfl, hfz, hnd⟩ := hW
  have hA : DataW.TrodAll enc Tryz.prog W 0 (fun _ => true) true Tryz.f4.params.toList args.toList ds p := hA0
  rw [Tryz.params4] at hA hval hz
  obtain ⟨v0, d0, rfl, rfl, h0⟩ := trodAll_one hA
  obtain ⟨g, t, cs, fuel, dv, pv, rfl, hg, ht, hvar, hd, rfl⟩ := trodVars_one hV
  obtain rfl := Option.some.inj (Tryz.g2.symm.trans hg)
  obtain rfl := Option.some.inj (Tryz.y2.symm.trans ht)
  have h0k := h0
  clear hA0
  have hlt : ∀ x ∈ p, x.block < W.heap.size := fun x hx => hW'.lt x (List.mem_append_left _ hx)
  have hltv : ∀ x ∈ pv, x.block < W.heap.size := fun x hx => hW'.lt x (List.mem_append_right _ (List.mem_append_right _ hx))
  have hT : HTab W := laid_hash (show laidMet Tryz.prog laidListH W from hL) (by simp [laidListH])
  have hgl : 2 < W.heap.size := World.block_lt_of_cell? _ _ (hT.cells 0 (by decide))
  have hargs : ∀ (W' : World), Below W.heap.size W W' → DataW.Trod enc Tryz.prog W' 0 (fun b => decide (b < W.heap.size)) true 22 v0 d0 p :=
    fun W' hn => Below.trod Tryz.laidOut (by kernel_rfl) (of_decide_eq_true (by kernel_rfl)) h0k hn hlt
  have hv0 : Value.okWide Tryz.prog W .any base 22 v0 := hval 0 22 v0 (by simp) (by simp)
  obtain ⟨a0, len, cap, rfl⟩ := okWide_slice Tryz.underlying22 hv0
  obtain ⟨A, l, cp, e0, hI⟩ := items_in h0 (by
    simp only [List.cons_append, List.nil_append, DataW.weightsEach, List.all_append, Bool.and_eq_true] at hz
    exact hz.1) rfl
  simp only [Value.slice.injEq] at e0
  obtain ⟨rfl, rfl, rfl⟩ := e0
  obtain ⟨EA, hE⟩ := laid_eof (show laidMet Tryz.prog laidListH W from hL)
  have walk : Calls Tryz.prog 4 #[.slice a0 l.length cap] W fun e w' => e = .returned (.bool true) ∧ Below W.heap.size W w' := FnHTML_calls hE hT hI
  refine walk.mono fun e W' ⟨he, hn⟩ => ?_
  subst he
  exact ⟨_, rfl, ⟨_, _, _, [], _, _, hW', trodAll_mk1 (shut_bool bool4 _), trodAll_mk1 (hargs _ hn), var_kept hg ht hvar hd (by kernel_rfl) (of_decide_eq_true (by kernel_rfl)) hltv hgl hn, hn.frame _, fun h => by cases h⟩⟩
theorem reads (os : Os) {H : Type} (enc : TypeId × Value → H) : ∃ places, DataW.whole enc Tryz.prog ((laidWorld os).forCall (fun _ _ => 0) ⟨#[], #[.slice none 0 0], []⟩).memory Tryz.f4.params.toList Rows.fnHTMLSpec.vars false #[Value.slice none 0 0].toList 8 = some ([.nil], [Rows.laid_loop_example_pub_g01476_pub_tdhtml_Hash_table], places) :=
  ⟨MemPlace.row ⟨2, 0, none⟩ 16, by kernel_rfl⟩
set_option maxRecDepth 100000 in
theorem lifted (os : Os) (started : os.Started) (H : Type) (enc : TypeId × Value → H) (F : Stop.Interp) :
    ReturnsInHanded {} Tryz.checked os 4 .any ((OpenSpec.ofChange Rows.fnHTMLSpec).preRow enc Tryz.prog Tryz.f4 Rows.fnHTMLRow.domain false Rows.fnHTMLRow.laid) (((OpenSpec.ofChange Rows.fnHTMLSpec).at F).post enc Tryz.prog Tryz.f4 false true false false) := by
  obtain ⟨places, hx⟩ := reads os enc
  refine returnsInHanded_of_row (C := Tryz.checked) (s := OpenSpec.ofChange Rows.fnHTMLSpec) Tryz.own started (by kernel_rfl) Tryz.func4
    (witness_row_at (enc := enc) (C := Tryz.checked) false (laidWorld os) #[.slice none 0 0] rfl (by kernel_rfl) (by kernel_rfl) (by kernel_rfl)
      (OpenSpec.preRow_of_cond 8 hx (by kernel_rfl) (fun k hk => by cases hk) (by kernel_rfl) (show laidMet Tryz.prog laidListH _ from (laid_inH os _).met))) ?_
  intro W base args ds gs before hval hW _ _ hz hL _ _
  exact contract H enc W base args ds gs before hval hW hz hL
theorem said : Rows.FnHTMLSaid :=
  OpenClaim.holds_of_cond 4 Tryz.f4 rfl rfl rfl rfl rfl rfl rfl ⟨rfl, rfl, rfl, rfl, rfl⟩ rfl rfl rfl rfl rfl (by kernel_rfl) Tryz.func4 (by kernel_rfl)
    (of_decide_eq_true (by kernel_rfl)) (by unfold Func.isWrapper; first | (rw [if_pos (by decide +kernel)]; kernel_rfl) | (rw [if_neg (by decide +kernel)]; exact ⟨rfl, rfl⟩))
    (fun os started H enc _ F => by rw [OpenClaim.pre_eq_preRow]; exact lifted os started H enc F)
theorem plain (f : FuncId) (fn : Func) (hf : Tryz.pinned.checked.prog.funcNamed "loop.example/pub-g01476/laws.FnHTML" = some f) (hfn : Tryz.pinned.checked.prog.funcs[f]? = some fn) :
    true = Tryz.pinned.checked.prog.looks [] ∧ ∀ (j : Nat) t, fn.params[j]? = some t → Tryz.pinned.checked.prog.wantsStandIn t = false := by
  obtain rfl : f = 4 := Option.some.inj ((show Tryz.prog.funcNamed "loop.example/pub-g01476/laws.FnHTML" = some 4 by kernel_rfl).symm.trans hf) |>.symm
  obtain rfl : fn = Tryz.f4 := (Option.some.inj (Tryz.func4.symm.trans hfn)).symm
  refine ⟨by kernel_rfl, fun j t ht => ?_⟩
  rw [Tryz.params4] at ht
  obtain rfl : t = 22 := by simpa using Array.mem_of_getElem? ht
  exact (show Tryz.prog.wantsStandIn 22 = false by kernel_rfl)
theorem card : Rows.FnHTMLCardSaid :=
  Claim7.holds_tied_plain_at .later [] _ _ _ _ said (fun _ h => by cases h) (by kernel_rfl) (fun _ h => by cases h) fnHTML_row_tie rfl ⟨rfl, rfl⟩ (by kernel_rfl) rfl plain (by kernel_rfl)
end Go.Proofs.YtfcedenofbefcaaGreatDoor.fnHTML
namespace Go.Proofs.YtfcedenofbefcaaGreatDoor
theorem fnHTML_holds : Rows.FnHTMLCardSaid := fnHTML.card
end Go.Proofs.YtfcedenofbefcaaGreatDoor
#print axioms Go.Proofs.YtfcedenofbefcaaGreatDoor.fnHTML_holds
