/- FnHTMLRaw: what stands in an element of characters alone is one text of the HTML lexer, up to its end, for every kind and content. -/
import Derived.Test.YtfcedenofbefcaaGreatDoorR4
import Derived.Test.YtfcedenofbefcaaGreatDoorV3
namespace Go.Proofs.YtfcedenofbefcaaGreatDoor.fnHTMLRaw
open Go.ChangeShapes Go.WideShapes Go.ChangeAt Go.RowKit
theorem bool4 : Tryz.prog.underlying 4 = some .bool := Tryz.underlying4
set_option maxHeartbeats 2000000 in
set_option maxRecDepth 100000 in
theorem contract (H : Type) (enc : TypeId × Value → H) (W : World) (base : Nat) (args : Array Value) (ds gs : List (DataW H)) (before : List MemPlace)
    (hval : ∀ (j : Nat) t v, Tryz.f5.params[j]? = some t → args[j]? = some v → Value.okWide Tryz.prog W .any base t v)
    (hW : DataW.Whole enc Tryz.prog Tryz.f5.params.toList Rows.fnHTMLRawSpec.vars false W args.toList ds gs before)
    (hz : (DataW.weightsEach Tryz.prog (Tryz.f5.params.toList ++ (OpenSpec.ofChange Rows.fnHTMLRawSpec).bare.plain.varTypes Tryz.prog) (ds ++ gs)).all (· ≤ reachBytes) = true) (hL : laidMetH Tryz.prog Rows.fnHTMLRawRow.laid W) :
    Calls Tryz.prog 5 args W fun e W' => ∃ v, e = .returned v ∧ Rows.fnHTMLRawSpec.post enc Tryz.prog Tryz.f5 false true false false W args v W' := by
  have hW' := hW
  obtain ⟨p, q, hA0, hV, rfl, hfz, hnd⟩ := hW
  have hA : DataW.TrodAll enc Tryz.prog W 0 (fun _ => true) true Tryz.f5.params.toList args.toList ds p := hA0
  rw [Tryz.params5] at hA hval hz
  obtain ⟨v0, v1, d0, d1, p0, p1, rfl, rfl, rfl, h0, h1⟩ := trodAll_two hA
  obtain ⟨g, t, cs, fuel, dv, pv, rfl, hg, ht, hvar, hd, rfl⟩ := trodVars_one hV
  obtain rfl := Option.some.inj (Tryz.g2.symm.trans hg)
  obtain rfl := Option.some.inj (Tryz.y2.symm.trans ht)
  have h0k := h0
  have h1k := h1
  clear hA0
  have hlt : ∀ x ∈ p0 ++ p1, x.block < W.heap.size := fun x hx => hW'.lt x (List.mem_append_left _ hx)
  have hltv : ∀ x ∈ pv, x.block < W.heap.size := fun x hx => hW'.lt x (List.mem_append_right _ (List.mem_append_right _ hx))
  have hT : HTab W := laid_hash (show laidMet Tryz.prog laidListH W from hL) (by simp [laidListH])
  have hgl : 2 < W.heap.size := World.block_lt_of_cell? _ _ (hT.cells 0 (by decide))
  have hargs0 : ∀ (W' : World), Below W.heap.size W W' → DataW.Trod enc Tryz.prog W' 0 (fun b => decide (b < W.heap.size)) true 3 v0 d0 p0 :=
    fun W' hn => Below.trod Tryz.laidOut (by kernel_rfl) (of_decide_eq_true (by kernel_rfl)) h0k hn (fun x hx => hlt x (List.mem_append_left _ hx))
  have hargs1 : ∀ (W' : World), Below W.heap.size W W' → DataW.Trod enc Tryz.prog W' 0 (fun b => decide (b < W.heap.size)) true 25 v1 d1 p1 :=
    fun W' hn => Below.trod Tryz.laidOut (by kernel_rfl) (of_decide_eq_true (by kernel_rfl)) h1k hn (fun x hx => hlt x (List.mem_append_right _ hx))
  obtain ⟨k, rfl⟩ := okWide_int Tryz.underlying3 (hval 0 3 v0 (by simp) (by simp))
  obtain ⟨A, T, cp, rfl, hB, hAb, hU, hcp, hn1⟩ := bytes_in2 (hval 1 25 v1 (by simp) (by simp)) h1 (by
    simp only [List.cons_append, List.nil_append, DataW.weightsEach, List.all_append, Bool.and_eq_true] at hz
    exact hz.2.1)
  obtain ⟨EA, hE⟩ := laid_eof (show laidMet Tryz.prog laidListH W from hL)
  have walk : Calls Tryz.prog 5 #[.int .i64 k, .slice A T.length cp] W fun e w' => e = .returned (.bool true) ∧ Below W.heap.size W w' := FnHTMLRaw_calls k hE hT ⟨hB, hcp, hn1⟩ (fun h0 ad e => hAb ad e)
  refine walk.mono fun e W' ⟨he, hn⟩ => ?_
  subst he
  exact ⟨_, rfl, ⟨_, _, _, [], _, _, hW', trodAll_mk1 (shut_bool bool4 _), trodAll_mk2 (hargs0 _ hn) (hargs1 _ hn), var_kept hg ht hvar hd (by kernel_rfl) (of_decide_eq_true (by kernel_rfl)) hltv hgl hn, hn.frame _, fun h => by cases h⟩⟩
theorem reads (os : Os) {H : Type} (enc : TypeId × Value → H) : ∃ places, DataW.whole enc Tryz.prog ((laidWorld os).forCall (fun _ _ => 0) ⟨#[], #[.int .i64 0, .slice none 0 0], []⟩).memory Tryz.f5.params.toList Rows.fnHTMLRawSpec.vars false #[Value.int .i64 0, Value.slice none 0 0].toList 8 = some ([.lit (.int .i64 0), .nil], [Rows.laid_loop_example_pub_g01476_pub_tdhtml_Hash_table], places) :=
  ⟨MemPlace.row ⟨2, 0, none⟩ 16, by kernel_rfl⟩
set_option maxRecDepth 100000 in
theorem lifted (os : Os) (started : os.Started) (H : Type) (enc : TypeId × Value → H) (F : Stop.Interp) :
    ReturnsInHanded {} Tryz.checked os 5 .any ((OpenSpec.ofChange Rows.fnHTMLRawSpec).preRow enc Tryz.prog Tryz.f5 Rows.fnHTMLRawRow.domain false Rows.fnHTMLRawRow.laid) (((OpenSpec.ofChange Rows.fnHTMLRawSpec).at F).post enc Tryz.prog Tryz.f5 false true false false) := by
  obtain ⟨places, hx⟩ := reads os enc
  refine returnsInHanded_of_row (C := Tryz.checked) (s := OpenSpec.ofChange Rows.fnHTMLRawSpec) Tryz.own started (by kernel_rfl) Tryz.func5
    (witness_row_at (enc := enc) (C := Tryz.checked) false (laidWorld os) #[.int .i64 0, .slice none 0 0] rfl (by kernel_rfl) (by kernel_rfl) (by kernel_rfl)
      (OpenSpec.preRow_of_cond 8 hx (by kernel_rfl) (fun k hk => by cases hk) (by kernel_rfl) (show laidMet Tryz.prog laidListH _ from (laid_inH os _).met))) ?_
  intro W base args ds gs before hval hW _ _ hz hL _ _
  exact contract H enc W base args ds gs before hval hW hz hL
theorem said : Rows.FnHTMLRawSaid :=
  OpenClaim.holds_of_cond 5 Tryz.f5 rfl rfl rfl rfl rfl rfl rfl ⟨rfl, rfl, rfl, rfl, rfl⟩ rfl rfl rfl rfl rfl (by kernel_rfl) Tryz.func5 (by kernel_rfl)
    (of_decide_eq_true (by kernel_rfl)) (by unfold Func.isWrapper; first | (rw [if_pos (by decide +kernel)]; kernel_rfl) | (rw [if_neg (by decide +kernel)]; exact ⟨rfl, rfl⟩))
    (fun os started H enc _ F => by rw [OpenClaim.pre_eq_preRow]; exact lifted os started H enc F)
theorem plain (f : FuncId) (fn : Func) (hf : Tryz.pinned.checked.prog.funcNamed "loop.example/pub-g01476/laws.FnHTMLRaw" = some f) (hfn : Tryz.pinned.checked.prog.funcs[f]? = some fn) :
    true = Tryz.pinned.checked.prog.looks [] ∧ ∀ (j : Nat) t, fn.params[j]? = some t → Tryz.pinned.checked.prog.wantsStandIn t = false := by
  obtain rfl : f = 5 := Option.some.inj ((show Tryz.prog.funcNamed "loop.example/pub-g01476/laws.FnHTMLRaw" = some 5 by kernel_rfl).symm.trans hf) |>.symm
  obtain rfl : fn = Tryz.f5 := (Option.some.inj (Tryz.func5.symm.trans hfn)).symm
  refine ⟨by kernel_rfl, fun j t ht => ?_⟩
  rw [Tryz.params5] at ht
  have h2 : t = 3 ∨ t = 25 := by simpa using Array.mem_of_getElem? ht
  rcases h2 with rfl | rfl
  · exact (show Tryz.prog.wantsStandIn 3 = false by kernel_rfl)
  · exact (show Tryz.prog.wantsStandIn 25 = false by kernel_rfl)
theorem card : Rows.FnHTMLRawCardSaid :=
  Claim7.holds_tied_plain_at .later [] _ _ _ _ said (fun _ h => by cases h) (by kernel_rfl) (fun _ h => by cases h) fnHTMLRaw_row_tie rfl ⟨rfl, rfl⟩ (by kernel_rfl) rfl plain (by kernel_rfl)
end Go.Proofs.YtfcedenofbefcaaGreatDoor.fnHTMLRaw
namespace Go.Proofs.YtfcedenofbefcaaGreatDoor
theorem fnHTMLRaw_holds : Rows.FnHTMLRawCardSaid := fnHTMLRaw.card
end Go.Proofs.YtfcedenofbefcaaGreatDoor
#print axioms Go.Proofs.YtfcedenofbefcaaGreatDoor.fnHTMLRaw_holds
