import Derived.Test.YtfcedenofbefcaaGreatDoorQ7
namespace Go.Proofs.YtfcedenofbefcaaGreatDoor
open Go.RowKit
set_option linter.unusedVariables false
set_option linter.unusedSimpArgs false
theorem told_match {P P' : List Pc} (h : Matches (P.map Pc.told) (P'.map Pc.told)) (i : Nat) (hi : i < P.length) : ∃ x y, P[i]? = some x ∧ P'[i]? = some y ∧ Match x.told y.told := by
  have hl : P.length = P'.length := by simpa using h.length
  exact ⟨_, _, List.getElem?_eq_getElem hi, List.getElem?_eq_getElem (hl ▸ hi), h.at i _ _ (by rw [List.getElem?_map, List.getElem?_eq_getElem hi]; rfl) (by rw [List.getElem?_map, List.getElem?_eq_getElem (hl ▸ hi)]; rfl)⟩
theorem SameE_calls {w : World} {A A' : Option Addr} {c c' : Nat} {S S' : List Int} (h : Bytes w A S) (h' : Bytes w A' S') (e : S = S') :
    Calls Tryz.prog 30 #[.slice A S.length c, .slice A' S'.length c'] w fun e w' => e = .returned (.bool true) ∧ w = w' := by
  subst e
  exact Same0_calls h h'
/-- Carried to a world that holds more. -/
theorem Bytes.up {w w' W : World} {A : Option Addr} {D : List Int} (h : Bytes w A D) (k : Below w.heap.size w w') (o o' : Obj) (n : Nat) : Bytes (((w'.alloc o).alloc o').drewN n) A D :=
  (((h.below' k).alloc o).alloc o').of_block fun _ _ _ => rfl
set_option maxHeartbeats 16000000 in
set_option maxRecDepth 100000 in
theorem SameTokens_calls {w : World} {lo base lo' base' : Nat} {v v' : Value} {P P' : List Pc} (hP : Pcs w lo base v P) (hP' : Pcs w lo' base' v' P') (hM : Matches (P.map Pc.told) (P'.map Pc.told)) (hK : ∀ x ∈ P, x.k ∈ kinds11) :
    Calls Tryz.prog 11 #[v, v'] w fun e w' => e = .returned (.bool true) ∧ Below w.heap.size w w' := by
  have hlen : P'.length = P.length := by simpa using hM.length.symm
  have HM := Hd.mk (fun i hi => told_match hM i hi)
  obtain ⟨Ag, cg, rfl, hml, hcg⟩ := hP.form
  obtain ⟨Ad, cd, rfl, _, hcd⟩ := hP'.form
  have HPg := Hd.mk hP
  have HPd := Hd.mk hP'
  have HKK := Hd.mk hK
  have Hcd := Hd.mk hcd
  have Hcg := Hd.mk hcg
  unfold maxLen at hml
  rw [hlen] at Hcd ⊢
  clear hcd hcg hP hP' hM hK hlen
  have hle : ((P.length : Int) != (P.length : Int)) = false := by simp
  have hle2 : ((P.length : Int) == (P.length : Int)) = true := by simp
  go_enter Tryz.func11, Tryz.ntmps11
  go_wp2_with fail
  go_loopg [15] P.length (fun gk v15 w' => ∃ i : Nat, v15 = .int .i64 i ∧ Hd (i + gk = P.length) ∧ Hd (Below w.heap.size w w'))
  case atStart => exact ⟨0, rfl, ⟨by omega⟩, ⟨Below.refl _ _⟩⟩
  case round =>
    obtain ⟨i, rfl, HK, HBr⟩ := hrel
    cases gk with
    | zero =>
      have hi : i = P.length := by have := HK.out; omega
      subst hi
      go_wp2
      go_ret
      exact ⟨rfl, HBr.out⟩
    | succ gk =>
      have hi : i < P.length := by have := HK.out; omega
      have hil : (i : Int) < (P.length : Int) := by omega
      obtain ⟨x, y, hx1, hy1, hm⟩ := HM.out i (by omega)
      obtain ⟨gg, rfl, hgg, fg⟩ := Hcg.out (by omega)
      obtain ⟨gd, rfl, hgd, fd⟩ := Hcd.out (by omega)
      obtain ⟨m1, m2, m3, m4⟩ := hm
      have hk : x.k = y.k := m1
      have hkk := HKK.out x (List.mem_of_getElem? hx1)
      have hox := HPg.out.dat x (List.mem_of_getElem? hx1)
      have hoy := HPd.out.dat y (List.mem_of_getElem? hy1)
      have g0 : wr.cell? ⟨gg, i * 6, none⟩ = some (.string (bstr x.k)) := (HBr.out.cell (p := ⟨gg, i * 6, none⟩) hgg).trans (fg i 0 _ (by decide) (by rw [hx1]; rfl))
      have g1 : wr.cell? ⟨gg, i * 6 + 1, none⟩ = some (.slice x.A x.D.length x.c) := (HBr.out.cell (p := ⟨gg, i * 6 + 1, none⟩) hgg).trans (fg i 1 _ (by decide) (by rw [hx1]; rfl))
      have g2 : wr.cell? ⟨gg, i * 6 + 2, none⟩ = some (.slice x.A2 x.T.length x.c2) := (HBr.out.cell (p := ⟨gg, i * 6 + 2, none⟩) hgg).trans (fg i 2 _ (by decide) (by rw [hx1]; rfl))
      have g3 : wr.cell? ⟨gg, i * 6 + 3, none⟩ = some (.slice none 0 0) := (HBr.out.cell (p := ⟨gg, i * 6 + 3, none⟩) hgg).trans (fg i 3 _ (by decide) (by rw [hx1]; rfl))
      have g4 : wr.cell? ⟨gg, i * 6 + 4, none⟩ = some (.slice x.A4 x.V.length x.c4) := (HBr.out.cell (p := ⟨gg, i * 6 + 4, none⟩) hgg).trans (fg i 4 _ (by decide) (by rw [hx1]; rfl))
      have g5 : wr.cell? ⟨gg, i * 6 + 5, none⟩ = some (.string ⟨#[]⟩) := (HBr.out.cell (p := ⟨gg, i * 6 + 5, none⟩) hgg).trans (fg i 5 _ (by decide) (by rw [hx1]; rfl))
      have d0 : wr.cell? ⟨gd, i * 6, none⟩ = some (.string (bstr y.k)) := (HBr.out.cell (p := ⟨gd, i * 6, none⟩) hgd).trans (fd i 0 _ (by decide) (by rw [hy1]; rfl))
      have d1 : wr.cell? ⟨gd, i * 6 + 1, none⟩ = some (.slice y.A y.D.length y.c) := (HBr.out.cell (p := ⟨gd, i * 6 + 1, none⟩) hgd).trans (fd i 1 _ (by decide) (by rw [hy1]; rfl))
      have d2 : wr.cell? ⟨gd, i * 6 + 2, none⟩ = some (.slice y.A2 y.T.length y.c2) := (HBr.out.cell (p := ⟨gd, i * 6 + 2, none⟩) hgd).trans (fd i 2 _ (by decide) (by rw [hy1]; rfl))
      have d3 : wr.cell? ⟨gd, i * 6 + 3, none⟩ = some (.slice none 0 0) := (HBr.out.cell (p := ⟨gd, i * 6 + 3, none⟩) hgd).trans (fd i 3 _ (by decide) (by rw [hy1]; rfl))
      have d4 : wr.cell? ⟨gd, i * 6 + 4, none⟩ = some (.slice y.A4 y.V.length y.c4) := (HBr.out.cell (p := ⟨gd, i * 6 + 4, none⟩) hgd).trans (fd i 4 _ (by decide) (by rw [hy1]; rfl))
      have d5 : wr.cell? ⟨gd, i * 6 + 5, none⟩ = some (.string ⟨#[]⟩) := (HBr.out.cell (p := ⟨gd, i * 6 + 5, none⟩) hgd).trans (fd i 5 _ (by decide) (by rw [hy1]; rfl))
      rw [← hk] at d0
      have HD1 := Hd.mk (fun o o' n => (hox.d.b.up (W := wr) HBr.out o o' n))
      have HD2 := Hd.mk (fun o o' n => (hoy.d.b.up (W := wr) HBr.out o o' n))
      have HT1 := Hd.mk (fun o o' n => (hox.t.b.up (W := wr) HBr.out o o' n))
      have HT2 := Hd.mk (fun o o' n => (hoy.t.b.up (W := wr) HBr.out o o' n))
      have HV1 := Hd.mk (fun o o' n => (hox.v.b.up (W := wr) HBr.out o o' n))
      have HV2 := Hd.mk (fun o o' n => (hoy.v.b.up (W := wr) HBr.out o o' n))
      have HXk := Hd.mk hox.d.k
      have HMm := Hd.mk (And.intro m2 (And.intro m3 m4))
      have HKm := Hd.mk hkk
      have ea := kind_attr _ hkk
      have ed := kind_doc _ hkk
      have ec := kind_close _ hkk
      have ev := kind_void _ hkk
      have ep := kind_pi _ hkk
      have Ea := Hd.mk ea; have Ed := Hd.mk ed; have Ec := Hd.mk ec; have Ev := Hd.mk ev; have Ep := Hd.mk ep
      clear ea ed ec ev ep
      have hgs : gg < wr.heap.size := by have := HBr.out.size; omega
      have hds : gd < wr.heap.size := by have := HBr.out.size; omega
      have HBn := Hd.mk (fun o o' => (HBr.out.alloc HBr.out.size o).alloc (by have := HBr.out.size; simp; omega) o')
      have hq : ((bstr x.k).toList == (bstr x.k).toList) = true := by simp
      have C0 := Hd.mk (fun o o' n => unblanked_calls (HD1.out o o' n) HXk.out HKm.out)
      have hu : unbl x.k x.D = y.D := by rw [hk]; exact HMm.out.1
      have HU := Hd.mk hu
      have C1 := Hd.mk (fun o o' n => (Same_calls (c := (unblK x.k x.D x.A x.c).2) (c' := y.c) (unblK_bytes (HD1.out o o' n) HXk.out) (by rw [HU.out]; exact HD2.out o o' n)))
      have HL := Hd.mk (congrArg List.length hu)
      rw [← hu] at d1
      clear m1 m2 m3 m4 hk hkk hox hoy hx1 hy1 fg fd hi HBr hu
      have C0' := Hd.mk (fun o o' n => (C0.out o o' n).mono fun e w' ⟨h1, h2⟩ => (⟨h1, 0, by subst h2; rfl⟩ : e = _ ∧ ∃ m, w' = (((wr.alloc o).alloc o').drewN n).drewN m))
      go_wp2_with fail
      go_quiet (first | with_reducible exact Calls.quiet_of (C0'.out _ _ _) | with_reducible exact Calls.quiet_of (C1.out _ _ _))
      clear C0 C0' C1 HU g0 g1 g2 g3 g4 g5 d0 d1 d2 d3 d4 d5 hq
      by_cases hk1 : x.k = kDoctype
      ·
        have ed := Ed.out; rw [decide_eq_true hk1] at ed
        have ea := Ea.out; rw [decide_eq_false (by rw [hk1]; decide)] at ea
        clear hk1
        go_wp2_with fail
        go_roundg gk
        case measure => exact Nat.lt_succ_self _
        case rel => exact ⟨i + 1, by go_num, ⟨by have := HK.out; omega⟩, ⟨(HBn.out _ _).drewN _⟩⟩
      have ed := Ed.out; rw [decide_eq_false hk1] at ed
      have Hed := Hd.mk hk1; clear hk1
      by_cases hk1 : x.k = kStartTagClose
      ·
        have ec := Ec.out; rw [decide_eq_true hk1] at ec
        have ea := Ea.out; rw [decide_eq_false (by rw [hk1]; decide)] at ea
        clear hk1
        go_wp2_with fail
        go_roundg gk
        case measure => exact Nat.lt_succ_self _
        case rel => exact ⟨i + 1, by go_num, ⟨by have := HK.out; omega⟩, ⟨(HBn.out _ _).drewN _⟩⟩
      have ec := Ec.out; rw [decide_eq_false hk1] at ec
      have Hec := Hd.mk hk1; clear hk1
      by_cases hk1 : x.k = kStartTagVoid
      ·
        have ev := Ev.out; rw [decide_eq_true hk1] at ev
        have ea := Ea.out; rw [decide_eq_false (by rw [hk1]; decide)] at ea
        clear hk1
        go_wp2_with fail
        go_roundg gk
        case measure => exact Nat.lt_succ_self _
        case rel => exact ⟨i + 1, by go_num, ⟨by have := HK.out; omega⟩, ⟨(HBn.out _ _).drewN _⟩⟩
      have ev := Ev.out; rw [decide_eq_false hk1] at ev
      have Hev := Hd.mk hk1; clear hk1
      by_cases hk1 : x.k = kStartTagClosePI
      ·
        have ep := Ep.out; rw [decide_eq_true hk1] at ep
        have ea := Ea.out; rw [decide_eq_false (by rw [hk1]; decide)] at ea
        clear hk1
        go_wp2_with fail
        go_roundg gk
        case measure => exact Nat.lt_succ_self _
        case rel => exact ⟨i + 1, by go_num, ⟨by have := HK.out; omega⟩, ⟨(HBn.out _ _).drewN _⟩⟩
      have ep := Ep.out; rw [decide_eq_false hk1] at ep
      have Hep := Hd.mk hk1; clear hk1
      have HTe := Hd.mk (HMm.out.2.1 Hed.out Hec.out Hev.out Hep.out)
      go_wp2_with fail
      refine (SameE_calls (HT1.out _ _ _) (HT2.out _ _ _) HTe.out).mono ?_
      rintro e w' ⟨rfl, rfl⟩
      by_cases hk1 : x.k = kAttribute
      ·
        have ea := Ea.out; rw [decide_eq_true hk1] at ea
        have HVe := Hd.mk (HMm.out.2.2 hk1)
        clear hk1
        go_wp2_with fail
        refine (SameE_calls (HV1.out _ _ _) (HV2.out _ _ _) HVe.out).mono ?_
        rintro e w' ⟨rfl, rfl⟩
        go_wp2_with fail
        go_roundg gk
        case measure => exact Nat.lt_succ_self _
        case rel => exact ⟨i + 1, by go_num, ⟨by have := HK.out; omega⟩, ⟨(HBn.out _ _).drewN _⟩⟩
      have ea := Ea.out; rw [decide_eq_false hk1] at ea
      clear hk1
      go_wp2_with fail
      go_roundg gk
      case measure => exact Nat.lt_succ_self _
      case rel => exact ⟨i + 1, by go_num, ⟨by have := HK.out; omega⟩, ⟨(HBn.out _ _).drewN _⟩⟩
end Go.Proofs.YtfcedenofbefcaaGreatDoor
