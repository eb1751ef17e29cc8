/- FnXML: what the XML lexer tells of a document's text is what is due of the document, for every list of items. -/
import Derived.Test.YtfcedenofbefcaaGreatDoorR1
import Derived.Test.YtfcedenofbefcaaGreatDoorV1
namespace Go.Proofs.YtfcedenofbefcaaGreatDoor.fnXML
open Go.ChangeShapes Go.WideShapes Go.ChangeAt Go.RowKit
theorem bool4 : Tryz.prog.underlying 4 = some .bool := Tryz.underlying4
set_option maxHeartbeats 2000000 in
set_option maxRecDepth 100000 in
theorem contract (H : Type) (enc : TypeId × Value → H) (W : World) (base : Nat) (args : Array Value) (ds gs : List (DataW H)) (before : List MemPlace)
    (hval : ∀ (j : Nat) t v, Tryz.f3.params[j]? = some t → args[j]? = some v → Value.okWide Tryz.prog W .any base t v)
    (hW : DataW.Whole enc Tryz.prog Tryz.f3.params.toList Rows.fnXMLSpec.vars false W args.toList ds gs before)
    (hz : (DataW.weightsEach Tryz.prog (Tryz.f3.params.toList ++ (OpenSpec.ofChange Rows.fnXMLSpec).bare.plain.varTypes Tryz.prog) (ds ++ gs)).all (· ≤ reachBytes) = true) (hL : laidMetH Tryz.prog Rows.fnXMLRow.laid W) :
    Calls Tryz.prog 3 args W fun e W' => ∃ v, e = .returned v ∧ Rows.fnXMLSpec.post enc Tryz.prog Tryz.f3 false true false false W args v W' := by
  have hW' := hW
  obtain ⟨p, q, hA0, hV, rfl, hfz, hnd⟩ := hW
  have hA : DataW.TrodAll enc Tryz.prog W 0 (fun _ => true) true Tryz.f3.params.toList args.toList ds p := hA0
  rw [Tryz.params3] at hA hval hz
  obtain ⟨v0, d0, rfl, rfl, h0⟩ := trodAll_one hA
  obtain ⟨rfl, rfl⟩ := trodVars_none hV
  have h0k := h0
  clear hA0
  simp only [List.append_nil] at hW'
  have hlt : ∀ x ∈ p, x.block < W.heap.size := fun x hx => by simpa using hW'.lt x hx
  have hargs : ∀ (W' : World), Below W.heap.size W W' → DataW.Trod enc Tryz.prog W' 0 (fun b => decide (b < W.heap.size)) true 22 v0 d0 p :=
    fun W' hn => Below.trod Tryz.laidOut (by kernel_rfl) (of_decide_eq_true (by kernel_rfl)) h0k hn hlt
  have hv0 : Value.okWide Tryz.prog W .any base 22 v0 := hval 0 22 v0 (by simp) (by simp)
  obtain ⟨a0, len, cap, rfl⟩ := okWide_slice Tryz.underlying22 hv0
  obtain ⟨A, l, cp, e0, hI⟩ := items_in h0 (by
    simp only [List.cons_append, List.nil_append, DataW.weightsEach, List.all_append, Bool.and_eq_true] at hz
    exact hz.1) rfl
  simp only [Value.slice.injEq] at e0
  obtain ⟨rfl, rfl, rfl⟩ := e0
  obtain ⟨EA, hE⟩ := laid_gives (show laidMet Tryz.prog laidList W from hL)
  have walk : Calls Tryz.prog 3 #[.slice a0 l.length cap] W fun e w' => e = .returned (.bool true) ∧ Below W.heap.size W w' := FnXML_calls hE hI
  refine walk.mono fun e W' ⟨he, hn⟩ => ?_
  subst he
  exact ⟨_, rfl, ⟨_, _, _, [], _, [], hW', trodAll_mk1 (shut_bool bool4 _), trodAll_mk1 (hargs _ hn), rfl, hn.frame _, fun h => by cases h⟩⟩
theorem reads (os : Os) {H : Type} (enc : TypeId × Value → H) : ∃ places, DataW.whole enc Tryz.prog ((laidWorld os).forCall (fun _ _ => 0) ⟨#[], #[.slice none 0 0], []⟩).memory Tryz.f3.params.toList Rows.fnXMLSpec.vars false #[Value.slice none 0 0].toList 8 = some ([.nil], [], places) :=
  ⟨[], by kernel_rfl⟩
set_option maxRecDepth 100000 in
theorem lifted (os : Os) (started : os.Started) (H : Type) (enc : TypeId × Value → H) (F : Stop.Interp) :
    ReturnsInHanded {} Tryz.checked os 3 .any ((OpenSpec.ofChange Rows.fnXMLSpec).preRow enc Tryz.prog Tryz.f3 Rows.fnXMLRow.domain false Rows.fnXMLRow.laid) (((OpenSpec.ofChange Rows.fnXMLSpec).at F).post enc Tryz.prog Tryz.f3 false true false false) := by
  obtain ⟨places, hx⟩ := reads os enc
  refine returnsInHanded_of_row (C := Tryz.checked) (s := OpenSpec.ofChange Rows.fnXMLSpec) Tryz.own started (by kernel_rfl) Tryz.func3
    (witness_row_at (enc := enc) (C := Tryz.checked) false (laidWorld os) #[.slice none 0 0] rfl (by kernel_rfl) (by kernel_rfl) (by kernel_rfl)
      (OpenSpec.preRow_of_cond 8 hx (by kernel_rfl) (fun k hk => by cases hk) (by kernel_rfl) (show laidMet Tryz.prog laidList _ from (laid_in os _).met))) ?_
  intro W base args ds gs before hval hW _ _ hz hL _ _
  exact contract H enc W base args ds gs before hval hW hz hL
theorem said : Rows.FnXMLSaid :=
  OpenClaim.holds_of_cond 3 Tryz.f3 rfl rfl rfl rfl rfl rfl rfl ⟨rfl, rfl, rfl, rfl, rfl⟩ rfl rfl rfl rfl rfl (by kernel_rfl) Tryz.func3 (by kernel_rfl)
    (of_decide_eq_true (by kernel_rfl)) (by unfold Func.isWrapper; first | (rw [if_pos (by decide +kernel)]; kernel_rfl) | (rw [if_neg (by decide +kernel)]; exact ⟨rfl, rfl⟩))
    (fun os started H enc _ F => by rw [OpenClaim.pre_eq_preRow]; exact lifted os started H enc F)
theorem plain (f : FuncId) (fn : Func) (hf : Tryz.pinned.checked.prog.funcNamed "loop.example/pub-g01476/laws.FnXML" = some f) (hfn : Tryz.pinned.checked.prog.funcs[f]? = some fn) :
    true = Tryz.pinned.checked.prog.looks [] ∧ ∀ (j : Nat) t, fn.params[j]? = some t → Tryz.pinned.checked.prog.wantsStandIn t = false := by
  obtain rfl : f = 3 := Option.some.inj ((show Tryz.prog.funcNamed "loop.example/pub-g01476/laws.FnXML" = some 3 by kernel_rfl).symm.trans hf) |>.symm
  obtain rfl : fn = Tryz.f3 := (Option.some.inj (Tryz.func3.symm.trans hfn)).symm
  refine ⟨by kernel_rfl, fun j t ht => ?_⟩
  rw [Tryz.params3] at ht
  obtain rfl : t = 22 := by simpa using Array.mem_of_getElem? ht
  exact (show Tryz.prog.wantsStandIn 22 = false by kernel_rfl)
theorem card : Rows.FnXMLCardSaid :=
  Claim7.holds_tied_plain_at .later [] _ _ _ _ said (fun _ h => by cases h) (by kernel_rfl) (fun _ h => by cases h) fnXML_row_tie rfl ⟨rfl, rfl⟩ (by kernel_rfl) rfl plain (by kernel_rfl)
end Go.Proofs.YtfcedenofbefcaaGreatDoor.fnXML
namespace Go.Proofs.YtfcedenofbefcaaGreatDoor
theorem fnXML_holds : Rows.FnXMLCardSaid := fnXML.card
end Go.Proofs.YtfcedenofbefcaaGreatDoor
#print axioms Go.Proofs.YtfcedenofbefcaaGreatDoor.fnXML_holds
