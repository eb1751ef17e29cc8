/- FnCSSTokens: the tokens of a text of CSS are those of the specification, for every text. -/
import Derived.Test.YteonakpgenkhkaaDoorR1
import Derived.Test.YteonakpgenkhkaaDoorM8
import Derived.Test.YteonakpgenkhkaaDoorT1
namespace Go.Proofs.YteonakpgenkhkaaDoor.fnCSSTokens
open Go.ChangeShapes Go.WideShapes Go.ChangeAt Go.RowKit
theorem bool4 : Tryd.prog.underlying 4 = some .bool := Tryd.underlying4
theorem contract (H : Type) (enc : TypeId × Value → H) (W : World) (base : Nat) (args : Array Value) (ds gs : List (DataW H)) (before : List MemPlace)
    (hval : ∀ (j : Nat) t v, Tryd.f6.params[j]? = some t → args[j]? = some v → Value.okWide Tryd.prog W .any base t v)
    (hW : DataW.Whole enc Tryd.prog Tryd.f6.params.toList Rows.fnCSSTokensSpec.vars false W args.toList ds gs before)
    (hz : (DataW.weightsEach Tryd.prog (Tryd.f6.params.toList ++ (OpenSpec.ofChange Rows.fnCSSTokensSpec).bare.plain.varTypes Tryd.prog) (ds ++ gs)).all (· ≤ reachBytes) = true) (hL : laidMetH Tryd.prog Rows.fnCSSTokensRow.laid W) :
    Calls Tryd.prog 6 args W fun e W' => ∃ v, e = .returned v ∧ Rows.fnCSSTokensSpec.post enc Tryd.prog Tryd.f6 false true false false W args v W' := by
  have hW' := hW
  obtain ⟨p, q, hA0, hV, rfl, hfz, hnd⟩ := hW
  have hA : DataW.TrodAll enc Tryd.prog W 0 (fun _ => true) true Tryd.f6.params.toList args.toList ds p := hA0
  rw [Tryd.params6] at hA hval hz
  obtain ⟨v0, d0, rfl, rfl, h0⟩ := trodAll_one hA
  obtain ⟨rfl, rfl⟩ := trodVars_none hV
  have h0k := h0
  clear hA0
  simp only [List.append_nil] at hW'
  have hlt : ∀ x ∈ p, x.block < W.heap.size := fun x hx => by simpa using hW'.lt x hx
  have hargs : ∀ (W' : World), Below W.heap.size W W' → DataW.Trod enc Tryd.prog W' 0 (fun b => decide (b < W.heap.size)) true 22 v0 d0 p :=
    fun W' hn => Below.trod Tryd.laidOut (by kernel_rfl) (of_decide_eq_true (by kernel_rfl)) h0k hn hlt
  obtain ⟨A, T, cp, rfl, hB, hAb, hT, hcp⟩ := bytes_in (hval 0 22 v0 rfl rfl) h0 (by
    simp only [List.cons_append, List.nil_append, DataW.weightsEach, List.all_append, Bool.and_eq_true] at hz
    exact hz.1)
  obtain ⟨hx, EA, hE⟩ := laid_gives (show laidMet Tryd.prog laidList W from hL)
  have walk : Calls Tryd.prog 6 #[.slice A T.length cp] W fun e w' => e = .returned (.bool true) ∧ Below W.heap.size W w' := FnCSSTokens_calls (T.length + 20) (min (T.length + 20) 6000) 100000 ⟨by omega⟩ ⟨rfl⟩ hE hB hAb hT hcp hx ⟨fun hl => by rw [show min (T.length + 20) 6000 = T.length + 20 by omega]; exact tokens_law hT hl 100000 rfl⟩
  refine walk.mono fun e W' ⟨he, hn⟩ => ?_
  subst he
  exact ⟨_, rfl, ⟨_, _, _, [], _, [], hW', trodAll_mk1 (shut_bool bool4 _), trodAll_mk1 (hargs _ hn), rfl, hn.frame _, fun h => by cases h⟩⟩
theorem reads (os : Os) {H : Type} (enc : TypeId × Value → H) : ∃ places, DataW.whole enc Tryd.prog ((laidWorld os).forCall (fun _ _ => 0) ⟨#[], #[.slice none 0 0], []⟩).memory Tryd.f6.params.toList Rows.fnCSSTokensSpec.vars false #[Value.slice none 0 0].toList 8 = some ([.nil], [], places) :=
  ⟨[], by kernel_rfl⟩
set_option maxRecDepth 100000 in
theorem lifted (os : Os) (started : os.Started) (H : Type) (enc : TypeId × Value → H) (F : Stop.Interp) :
    ReturnsInHanded {} Tryd.checked os 6 .any ((OpenSpec.ofChange Rows.fnCSSTokensSpec).preRow enc Tryd.prog Tryd.f6 Rows.fnCSSTokensRow.domain false Rows.fnCSSTokensRow.laid) (((OpenSpec.ofChange Rows.fnCSSTokensSpec).at F).post enc Tryd.prog Tryd.f6 false true false false) := by
  obtain ⟨places, hx⟩ := reads os enc
  refine returnsInHanded_of_row (C := Tryd.checked) (s := OpenSpec.ofChange Rows.fnCSSTokensSpec) Tryd.own started (by kernel_rfl) Tryd.func6
    (witness_row_at (enc := enc) (C := Tryd.checked) false (laidWorld os) #[.slice none 0 0] rfl (by kernel_rfl) (by kernel_rfl) (by kernel_rfl)
      (OpenSpec.preRow_of_cond 8 hx (by kernel_rfl) (fun k hk => by cases hk) (by kernel_rfl) (show laidMet Tryd.prog laidList _ from (laid_in os _).met))) ?_
  intro W base args ds gs before hval hW _ _ hz hL _ _
  exact contract H enc W base args ds gs before hval hW hz hL
theorem said : Rows.FnCSSTokensSaid :=
  OpenClaim.holds_of_cond 6 Tryd.f6 rfl rfl rfl rfl rfl rfl rfl ⟨rfl, rfl, rfl, rfl, rfl⟩ rfl rfl rfl rfl rfl (by kernel_rfl) Tryd.func6 (by kernel_rfl)
    (of_decide_eq_true (by kernel_rfl)) (by unfold Func.isWrapper; first | (rw [if_pos (by decide +kernel)]; kernel_rfl) | (rw [if_neg (by decide +kernel)]; exact ⟨rfl, rfl⟩))
    (fun os started H enc _ F => by rw [OpenClaim.pre_eq_preRow]; exact lifted os started H enc F)
theorem plain (f : FuncId) (fn : Func) (hf : Tryd.pinned.checked.prog.funcNamed "loop.example/pub-g01476/laws.FnCSSTokens" = some f) (hfn : Tryd.pinned.checked.prog.funcs[f]? = some fn) :
    true = Tryd.pinned.checked.prog.looks [] ∧ ∀ (j : Nat) t, fn.params[j]? = some t → Tryd.pinned.checked.prog.wantsStandIn t = false := by
  obtain rfl : f = 6 := Option.some.inj ((show Tryd.prog.funcNamed "loop.example/pub-g01476/laws.FnCSSTokens" = some 6 by kernel_rfl).symm.trans hf) |>.symm
  obtain rfl : fn = Tryd.f6 := (Option.some.inj (Tryd.func6.symm.trans hfn)).symm
  refine ⟨by kernel_rfl, fun j t ht => ?_⟩
  rw [Tryd.params6] at ht
  obtain rfl : t = 22 := by simpa using Array.mem_of_getElem? ht
  exact (show Tryd.prog.wantsStandIn 22 = false by kernel_rfl)
theorem card : Rows.FnCSSTokensCardSaid :=
  Claim7.holds_tied_plain_at .later [] _ _ _ _ said (fun _ h => by cases h) (by kernel_rfl) (fun _ h => by cases h) fnCSSTokens_row_tie rfl ⟨rfl, rfl⟩ (by kernel_rfl) rfl plain (by kernel_rfl)
end Go.Proofs.YteonakpgenkhkaaDoor.fnCSSTokens
namespace Go.Proofs.YteonakpgenkhkaaDoor
theorem fnCSSTokens_holds : Rows.FnCSSTokensCardSaid := fnCSSTokens.card
end Go.Proofs.YteonakpgenkhkaaDoor
#print axioms Go.Proofs.YteonakpgenkhkaaDoor.fnCSSTokens_holds
