import Derived.Test.YtfcedenofbefcaaGreatDoorW6
import Derived.Test.YtfcedenofbefcaaGreatDoorHF
import Derived.Test.YtfcedenofbefcaaGreatDoorHD
namespace Go.Proofs.YtfcedenofbefcaaGreatDoor
open Go.RowKit
set_option linter.unusedVariables false
set_option linter.unusedSimpArgs false
theorem startK_mem (k : Int) : startK k ∈ kinds11 := by unfold startK; split <;> decide
theorem lastK_mem (k : Int) : lastK k ∈ kinds11 := by
  unfold lastK
  by_cases h : k = 5
  · rw [if_pos h]; decide
  · rw [if_neg h]; split <;> decide
theorem told_kinds (i : ItemD) : ∀ g ∈ itemTold i, g.1 ∈ kinds11 := by
  intro g hg
  unfold itemTold at hg
  by_cases h0 : i.kind = 0
  · rw [if_pos h0] at hg; obtain rfl := List.mem_singleton.mp hg; exact (show kText ∈ kinds11 by decide)
  rw [if_neg h0] at hg
  by_cases h1 : i.kind = 1
  · rw [if_pos h1] at hg; obtain rfl := List.mem_singleton.mp hg; exact (show kComment ∈ kinds11 by decide)
  rw [if_neg h1] at hg
  by_cases h2 : i.kind = 2
  · rw [if_pos h2] at hg; obtain rfl := List.mem_singleton.mp hg; exact (show kCDATA ∈ kinds11 by decide)
  rw [if_neg h2] at hg
  by_cases h3 : i.kind = 3
  · rw [if_pos h3] at hg; obtain rfl := List.mem_singleton.mp hg; exact (show kDoctype ∈ kinds11 by decide)
  rw [if_neg h3] at hg
  by_cases h7 : i.kind = 7
  · rw [if_pos h7] at hg; obtain rfl := List.mem_singleton.mp hg; exact (show kEndTag ∈ kinds11 by decide)
  rw [if_neg h7] at hg
  rcases List.mem_cons.mp hg with rfl | hg
  · exact startK_mem _
  rcases List.mem_append.mp hg with hg | hg
  · obtain ⟨a, _, rfl⟩ := List.mem_map.mp hg
    exact (show kAttribute ∈ kinds11 by decide)
  · obtain rfl := List.mem_singleton.mp hg
    exact lastK_mem _
theorem doc_kinds (l : List ItemD) : ∀ g ∈ docTold l, g.1 ∈ kinds11 := fun g hg => by
  obtain ⟨i, _, h⟩ := List.mem_flatMap.mp hg
  exact told_kinds i g h
theorem pcs_kinds {P : List Pc} {l : List ItemD} (h : P.map Pc.told = docTold l) : ∀ x ∈ P, x.k ∈ kinds11 := fun x hx =>
  doc_kinds l x.told (h ▸ List.mem_map_of_mem hx)
set_option maxHeartbeats 8000000 in
set_option maxRecDepth 100000 in
theorem FnHTML_calls {w : World} {A : Option Addr} {l : List ItemV} {cp : Nat} {EA : Addr} (h0 : w.cell? ⟨0, 0, none⟩ = some (.iface 179 (.pointer (some EA)))) (ht : HTab w) (h : ItemsAt w A l) :
    Calls Tryz.prog 4 #[.slice A l.length cp] w fun e w' => e = .returned (.bool true) ∧ Below w.heap.size w w' := by
  obtain ⟨N, hN⟩ : ∃ N, N = 100000 := ⟨_, rfl⟩
  have HN := Hd.mk hN
  have HA := Hd.mk h
  have H0 := Hd.mk h0
  have HTb := Hd.mk ht
  clear ht
  have hb0 := World.block_lt_of_cell? _ _ h0
  clear h h0 hN
  go_enter Tryz.func4, Tryz.ntmps4
  go_wp2_with fail
  refine (zz4_calls HA.out).mono ?_
  rintro e w1 ⟨⟨b, rfl, _⟩, hB1⟩
  have HB1 := Hd.mk hB1
  clear hB1
  cases b with
  | false =>
    go_wp2
    go_ret
    exact ⟨rfl, HB1.out⟩
  | true =>
    go_wp2_with fail
    refine (AreItems_calls (HA.out.below HB1.out) true).mono ?_
    rintro e w2 ⟨⟨b, rfl, hG⟩, hB2⟩
    have HB2 := Hd.mk (kp_call (show Kp w w1 from HB1.out) hB2)
    clear hB2
    cases b with
    | false =>
      clear hG
      go_wp2
      go_ret
      exact ⟨rfl, HB2.out⟩
    | true =>
      have HG := Hd.mk (hG rfl)
      clear hG
      go_wp2_with fail
      refine (Document_calls (html := true) (HA.out.below HB2.out) HG.out).mono ?_
      rintro e w3 ⟨⟨A', c', v, P, rfl, hS, hP, hT⟩, hB3⟩
      have HB3 := Hd.mk (kp_call (show Kp w w2 from HB2.out) hB3)
      have HD := Hd.mk (And.intro hS (And.intro hP hT))
      have HX := Hd.mk (html_law HG.out N HN.out)
      have HTl := Hd.mk (docT_len HG.out)
      have HM := Hd.mk (doc_match (html := true) (l.map ItemV.d) fun i hi => (HG.out.1 i hi).1)
      generalize hK : (docT (l.map ItemV.d)).length + 2 = K at HX
      clear hS hP hT hB3 hK
      go_wp2_with fail
      refine (HTML_calls K N HN ((HB3.out.cell (p := ⟨0, 0, none⟩) hb0).trans H0.out) (HTb.out.of_block fun hl => HB3.out.block 2 hl) HD.out.1.b (by have := HTl.out; omega) _ true HX).mono ?_
      rintro e w4 ⟨v2, P2, base2, rfl, hP2, hT2, hB4⟩
      have HB4 := Hd.mk (kp_call (show Kp w w3 from HB3.out) hB4)
      have HP2 := Hd.mk hP2
      have HT2 := Hd.mk hT2
      have HP1 := Hd.mk (HD.out.2.1.below hB4)
      clear hP2 hT2 hB4
      go_wp2_with fail
      refine (SameTokens_calls HP2.out HP1.out (by rw [HT2.out, HD.out.2.2]; exact HM.out) (pcs_kinds HT2.out)).mono ?_
      rintro e w5 ⟨rfl, hB5⟩
      have HB5 := Hd.mk (kp_call (show Kp w w4 from HB4.out) hB5)
      clear hB5
      go_wp2
      go_ret
      exact ⟨rfl, HB5.out⟩
end Go.Proofs.YtfcedenofbefcaaGreatDoor
