/- EscapeAttrVal (function 41), walked. -/
import Derived.Test.YtfcedenofbefcaaGreatDoorJ1
import Derived.Deep.RegionLaw
namespace Go.Proofs.YtfcedenofbefcaaGreatDoor
open Go.RowKit
set_option linter.unusedVariables false
set_option linter.unusedSimpArgs false
/-! EscapeAttrVal, walked. -/
set_option maxHeartbeats 8000000 in
set_option maxRecDepth 100000 in
theorem Escape_calls {w : World} {gp gb g0 B0 : Nat} {T : List Int} {q : Int} {must : Bool} (hp : w.heap[gp]? = some (.cells #[.slice (some ⟨g0, 0, none⟩) 0 0] 25 (0, 0))) (hb : w.heap[gb]? = some (.cells (T.map (Value.int .u8)).toArray 5 (0, 0)))
    (h0 : 0 < T.length) (h5 : T.length ≤ 500) (hU : ∀ c ∈ T, 0 ≤ c ∧ c < 256) (hz : ∀ c ∈ T, c ≠ 0) (hC : CTab w) (hq : q = 34 ∨ q = 39) (hB1 : B0 ≤ gp) (hB2 : B0 ≤ w.heap.size) :
    Calls Tryz.prog 41 #[.pointer (some ⟨gp, 0, none⟩), .slice (some ⟨gb, 0, none⟩) T.length T.length, .int .u8 q, .bool must] w (EscPost B0 w) := by
  have HP := Hd.mk hp
  have HB := Hd.mk hb
  have HU := Hd.mk hU
  have HZ := Hd.mk hz
  have HC := Hd.mk hC
  have cp0 : w.cell? ⟨gp, 0, none⟩ = some (.slice (some ⟨g0, 0, none⟩) 0 0) := (cell_of_block hp 0).trans rfl
  have fp0 := frozen_of_block hp 0
  have HB1 := Hd.mk hB1
  have HB2 := Hd.mk hB2
  have hgb := lt_of_heap hb
  have hgp := lt_of_heap hp
  have hne : gp ≠ gb := by rintro rfl; rw [hp] at hb; simp at hb
  have HG := Hd.mk (And.intro hgb (And.intro hgp hne))
  clear hp hb hU hz hC hB1 hB2 hgb hgp hne
  go_enter Tryz.func41, Tryz.ntmps41
  go_upto_block 0 with fail
  go_cut [9, 10, 11] from 26 to 26 (fun v9 v10 v11 w' => ∃ a d : Nat, v9 = .int .i64 a ∧ v10 = .int .i64 d ∧ v11 = .bool (unq T) ∧ Hd (a = T.count 39 ∧ d = T.count 34) ∧ w = w')
  case first =>
    go_wp2_with fail
    go_loopg [9, 10, 11, 25] T.length (fun gk v9 v10 v11 v25 w' => ∃ (k a d : Nat) (u : Bool), v9 = .int .i64 a ∧ v10 = .int .i64 d ∧ v11 = .bool u ∧ v25 = .int .i64 k ∧ Hd (k + gk = T.length) ∧ Hd (a = (T.take k).count 39 ∧ d = (T.take k).count 34 ∧ u = unq (T.take k)) ∧ w = w')
    case atStart => exact ⟨0, 0, 0, true, rfl, rfl, rfl, rfl, ⟨by omega⟩, ⟨rfl, rfl, rfl⟩, rfl⟩
    case round =>
      obtain ⟨k, a, d, u, rfl, rfl, rfl, rfl, HK, HS, rfl⟩ := hrel
      cases gk with
      | zero =>
        have hk : k = T.length := by have := HK.out; omega
        subst hk
        obtain ⟨e1, e2, e3⟩ := HS.out
        rw [List.take_length] at e1 e2 e3
        subst e3
        have HE := Hd.mk (And.intro e1 e2)
        clear e1 e2 HS
        go_wp2_with fail
        go_meet
        case rel => exact ⟨a, d, rfl, rfl, rfl, HE, rfl⟩
      | succ gk =>
        have hlt : k < T.length := by have := HK.out; omega
        have hkl : (k : Int) < (T.length : Int) := by omega
        have hk0 : (0 : Int) ≤ (k : Int) := by omega
        have hmem : T.getD k 0 ∈ T := by rw [List.getD_eq_getElem?_getD, List.getElem?_eq_getElem hlt]; exact List.getElem_mem _
        have hcell : w.cell? ⟨gb, k, none⟩ = some (.int .u8 (T.getD k 0)) := by rw [cell_of_block HB.out, List.getElem?_toArray]; exact bytes_at hlt
        have ha : a ≤ T.length := by have := HS.out.1; have := List.count_le_length (a := (39 : Int)) (l := T.take k); simp at this; omega
        have hd : d ≤ T.length := by have := HS.out.2.1; have := List.count_le_length (a := (34 : Int)) (l := T.take k); simp at this; omega
        have s1 := Hd.mk (cnt_snoc hlt 39)
        have s2 := Hd.mk (cnt_snoc hlt 34)
        have s3 := Hd.mk (unq_snoc hlt)
        obtain ⟨u0, u1⟩ := HU.out _ hmem
        have htab := HC.out.cells _ u0 u1
        generalize T.getD k 0 = c at hcell htab s1 s2 s3 u0 u1
        have hcn : c.toNat < 256 := by omega
        have hct : ((c.toNat : Nat) : Int) = c := by omega
        clear hmem
        have hwa : wrap64 ((a : Int) + 1) = ((a + 1 : Nat) : Int) := by rw [wrap_small (by omega) (by omega)]; omega
        have hwd : wrap64 ((d : Int) + 1) = ((d + 1 : Nat) : Int) := by rw [wrap_small (by omega) (by omega)]; omega
        cases hcc : ctab c with
        | false =>
          rw [hcc] at htab
          have n34 : c ≠ 34 := by rintro rfl; revert hcc; decide
          have n39 : c ≠ 39 := by rintro rfl; revert hcc; decide
          have HS2 : Hd (a = (T.take (k + 1)).count 39 ∧ d = (T.take (k + 1)).count 34 ∧ u = unq (T.take (k + 1))) := ⟨by rw [s1.out, s2.out, s3.out, hcc, if_neg n39, if_neg n34, ← HS.out.2.2]; exact ⟨HS.out.1, HS.out.2.1, by simp⟩⟩
          clear n34 n39 hcc s1 s2 s3 HS
          go_wp2_with fail
          go_roundg gk
          case measure => exact Nat.lt_succ_self _
          case rel => exact ⟨k + 1, a, d, u, rfl, rfl, rfl, by go_num, ⟨by have := HK.out; omega⟩, HS2, rfl⟩
        | true =>
          rw [hcc] at htab
          by_cases c34 : (c == 34) = true
          · obtain rfl := beq_iff_eq.mp c34
            have HS2 : Hd (a = (T.take (k + 1)).count 39 ∧ d + 1 = (T.take (k + 1)).count 34 ∧ false = unq (T.take (k + 1))) := ⟨by rw [s1.out, s2.out, s3.out, hcc, if_neg (by decide), if_pos rfl]; exact ⟨HS.out.1, by rw [HS.out.2.1], by simp⟩⟩
            have htab2 : w.cell? ⟨1, 34, none⟩ = some (.bool true) := htab
            clear c34 hcc s1 s2 s3 HS htab hcn hct u0 u1
            go_wp2_with fail
            go_roundg gk
            case measure => exact Nat.lt_succ_self _
            case rel => exact ⟨k + 1, a, d + 1, false, rfl, by first | rfl | (go_num; done) | simp [hwd], rfl, by go_num, ⟨by have := HK.out; omega⟩, HS2, rfl⟩
          · have n34 : c ≠ 34 := fun e => c34 (by rw [e]; rfl)
            replace c34 := Bool.eq_false_iff.mpr c34
            by_cases c39 : (c == 39) = true
            · obtain rfl := beq_iff_eq.mp c39
              have HS2 : Hd (a + 1 = (T.take (k + 1)).count 39 ∧ d = (T.take (k + 1)).count 34 ∧ false = unq (T.take (k + 1))) := ⟨by rw [s1.out, s2.out, s3.out, hcc, if_pos rfl, if_neg (by decide)]; exact ⟨by rw [HS.out.1], HS.out.2.1, by simp⟩⟩
              have htab2 : w.cell? ⟨1, 39, none⟩ = some (.bool true) := htab
              clear n34 c34 c39 hcc s1 s2 s3 HS htab hcn hct u0 u1
              go_wp2_with fail
              go_roundg gk
              case measure => exact Nat.lt_succ_self _
              case rel => exact ⟨k + 1, a + 1, d, false, by first | rfl | (go_num; done) | simp [hwa], rfl, rfl, by go_num, ⟨by have := HK.out; omega⟩, HS2, rfl⟩
            · have n39 : c ≠ 39 := fun e => c39 (by rw [e]; rfl)
              replace c39 := Bool.eq_false_iff.mpr c39
              have HS2 : Hd (a = (T.take (k + 1)).count 39 ∧ d = (T.take (k + 1)).count 34 ∧ false = unq (T.take (k + 1))) := ⟨by rw [s1.out, s2.out, s3.out, hcc, if_neg n39, if_neg n34]; exact ⟨HS.out.1, HS.out.2.1, by simp⟩⟩
              clear n34 n39 hcc s1 s2 s3 HS
              go_wp2_with fail
              go_roundg gk
              case measure => exact Nat.lt_succ_self _
              case rel => exact ⟨k + 1, a, d, false, rfl, rfl, rfl, by go_num, ⟨by have := HK.out; omega⟩, HS2, rfl⟩
  case rest =>
    obtain ⟨a, d, rfl, rfl, rfl, HS, rfl⟩ := hcut
    have q0 : (q == 0) = false := by rcases hq with rfl | rfl <;> rfl
    go_upto_region 14 with (fail)

    go_cut [11, 49] from 49 to 49 (fun v11 v49 w' => v11 = .bool (unq T) ∧ v49 = .bool (unq T && !must) ∧ w = w')
    case first =>
      cases hu : unq T
      · go_wp2_with fail
        go_meet
        case rel => exact ⟨by rw [hu], by first | rfl | (rw [hu]; rfl), rfl⟩
      · cases must
        · go_wp2_with fail
          go_meet
          case rel => exact ⟨by rw [hu], by first | rfl | (rw [hu]; rfl), rfl⟩
        · go_wp2_with fail
          go_meet
          case rel => exact ⟨by rw [hu], by first | rfl | (rw [hu]; rfl), rfl⟩
    case rest =>
      obtain ⟨rfl, rfl, rfl⟩ := hcut
      cases hA : (unq T && !must)
      case true =>
        have HA := Hd.mk hA
        clear hA
        go_wp2_with fail
        go_ret
        have hut : unq T = true := by have := HA.out; simp at this; exact this.1
        have hE : Es w w gb T.length T := ⟨⟨[], by simpa using HB.out, by simp⟩, Below.refl _ _⟩
        obtain ⟨o1, o2⟩ := hE.out (by omega)
        refine ⟨⟨_, T, _, rfl, o1, o2, by omega, .inr ⟨h0, fun c hc => ⟨?_, HZ.out c hc⟩⟩⟩, Below.refl _ _⟩
        have := List.all_eq_true.mp hut c hc
        simpa using this
      case false =>
        clear hA
        go_upto_if 49 with (fail)
        go_cut [] from 51 to 51 (fun w' => w = w')
        case first =>
          go_upto_region 16 with (fail)
          go_cut [64] from 64 to 64 (fun v64 w' => v64 = .bool (decide (T.count q = 0)) ∧ w = w')
          case first =>
            by_cases ha : a = 0
            · have ha0 : ((a : Int) == 0) = true := by rw [beq_iff_eq]; omega
              have HA := Hd.mk ha
              clear ha
              by_cases hd : d = 0
              · have hd0 : ((d : Int) == 0) = true := by rw [beq_iff_eq]; omega
                have HD := Hd.mk hd
                clear hd
                rcases hq with rfl | rfl
                · go_wp2_with fail
                  go_meet
                  case rel => exact ⟨by rw [← HS.out.2, decide_eq_true HD.out], rfl⟩
                · go_wp2_with fail
                  go_meet
                  case rel => exact ⟨by rw [← HS.out.1, decide_eq_true HA.out], rfl⟩
              · have hd0 : ((d : Int) == 0) = false := by rw [beq_eq_false_iff_ne]; omega
                have HD := Hd.mk hd
                clear hd
                rcases hq with rfl | rfl
                · go_wp2_with fail
                  go_meet
                  case rel => exact ⟨by rw [← HS.out.2, decide_eq_false HD.out], rfl⟩
                · go_wp2_with fail
                  go_meet
                  case rel => exact ⟨by rw [← HS.out.1, decide_eq_true HA.out], rfl⟩
            · have ha0 : ((a : Int) == 0) = false := by rw [beq_eq_false_iff_ne]; omega
              have HA := Hd.mk ha
              clear ha
              by_cases hd : d = 0
              · have hd0 : ((d : Int) == 0) = true := by rw [beq_iff_eq]; omega
                have HD := Hd.mk hd
                clear hd
                rcases hq with rfl | rfl
                · go_wp2_with fail
                  go_meet
                  case rel => exact ⟨by rw [← HS.out.2, decide_eq_true HD.out], rfl⟩
                · go_wp2_with fail
                  go_meet
                  case rel => exact ⟨by rw [← HS.out.1, decide_eq_false HA.out], rfl⟩
              · have hd0 : ((d : Int) == 0) = false := by rw [beq_eq_false_iff_ne]; omega
                have HD := Hd.mk hd
                clear hd
                rcases hq with rfl | rfl
                · go_wp2_with fail
                  go_meet
                  case rel => exact ⟨by rw [← HS.out.2, decide_eq_false HD.out], rfl⟩
                · go_wp2_with fail
                  go_meet
                  case rel => exact ⟨by rw [← HS.out.1, decide_eq_false HA.out], rfl⟩
          case rest =>
            obtain ⟨rfl, rfl⟩ := hcut
            cases hD : decide (T.count q = 0)
            case false =>
              clear hD
              go_wp2_with fail
              go_meet
              case rel => rfl
            case true =>
              have HC0 := Hd.mk (of_decide_eq_true hD)
              clear hD
              obtain ⟨cur, w3, M⟩ := made_of HP.out HB.out HG.out.2.2 HB1.out HB2.out (T.length + 2) (by omega)
              obtain ⟨R, D1⟩ := laid_of (w := w) q M.e3 M.b3 (Nat.ne_of_gt HG.out.1) (by omega)
              obtain ⟨v3, c3⟩ := D1.c3
              have hmk : ∀ w : World, (Instr.makeSlice 25 (.int .i64 0) (.int .i64 ((T.length : Int) + 2))).run Tryz.prog w = .ok (.slice (some ⟨w.heap.size, 0, none⟩) 0 (T.length + 2)) (w.alloc (.cells cur.toArray 5)) := M.run
              have hp1 := M.p1.trans cp0
              have hf1 := M.f1
              have hw3 := M.w3e
              have hp3 := M.p3
              have f3 := D1.f3
              have na : (0 : Int) < (T.length : Int) + 2 := by omega
              have nb : 0 < T.length + 2 := by omega
              have nc : 1 < T.length + 2 := by omega
              have nd : 1 + (T.length : Int) < (T.length : Int) + 2 := by omega
              have ne : (0 : Int) ≤ 1 + (T.length : Int) := by omega
              have nf : (1 : Int) ≤ (T.length : Int) + 2 := by omega
              have nt : (1 + (T.length : Int)).toNat = T.length + 1 := by omega
              have nl : T.length + 1 < T.length + 2 := by omega
              have MM := Hd.mk M
              have DD := Hd.mk D1
              clear M D1
              go_wp2_with (refine wpList_copy_splice (o := ⟨some 92, _, _, _, _, _⟩) rfl (.tmp 90) (.tmp 91) 25 25 rfl 5 Tryz.underlying25 (by kernel_rfl) _ _ _ _ _ _ rfl rfl w.heap.size 1 _ 5 DD.out.r4 (T.map (Value.int .u8)) (by rw [List.length_map]; exact (Nat.min_eq_left (Nat.le_succ _)).symm) (fun _ => ⟨rfl, _, rfl, fun j v hv => DD.out.s4 0 T.length j v (by rw [List.drop_zero, List.take_length]; exact hv)⟩) (by have := DD.out.l4; rw [List.length_map, List.length_append, List.length_map, List.length_singleton]; omega) (by simp [Value.oneCell']) w.heap.size _ (Below.refl _ _) (Nat.le_refl _) ?_; intro w5 g5 b5; obtain ⟨E5, ⟨v5, c5⟩, f5⟩ := copy_five (n1 := T.length + 1) DD.out rfl rfl g5.out b5; have H5 := Hd.mk E5; clear E5 g5 b5)
              go_ret
              exact esc_done rfl rfl h5 MM.out.below HB2.out H5.out hq HC0.out HZ.out
        case rest =>
          obtain rfl := hcut
          have h1 := HS.out.1
          have h2 := HS.out.2
          have ha5 : a ≤ 500 := by have := List.count_le_length (a := (39 : Int)) (l := T); omega
          have hd5 : d ≤ 500 := by have := List.count_le_length (a := (34 : Int)) (l := T); omega
          clear h1 h2
          go_upto_region 27 with (fail)
          go_cut [114] from 114 to 114 (fun v114 w' => (∃ x, v114 = .bool x) ∧ w = w')
          case first =>
            obtain ⟨x1, e1⟩ : ∃ x, decide (d < a) = x := ⟨_, rfl⟩
            have e1' : decide ((d : Int) < (a : Int)) = x1 := by rw [← e1]; simp
            obtain ⟨x2, e2⟩ : ∃ x, ((a : Int) == (d : Int)) = x := ⟨_, rfl⟩
            obtain ⟨x3, e3⟩ : ∃ x, (q == 39) = x := ⟨_, rfl⟩
            have e3' : (q != 39) = !x3 := by rw [← e3]; rfl
            cases x1
            · cases x2
              · cases x3
                · go_wp2_with fail
                  go_meet
                  case rel => exact ⟨⟨_, rfl⟩, rfl⟩
                · go_wp2_with fail
                  go_meet
                  case rel => exact ⟨⟨_, rfl⟩, rfl⟩
              · cases x3
                · go_wp2_with fail
                  go_meet
                  case rel => exact ⟨⟨_, rfl⟩, rfl⟩
                · go_wp2_with fail
                  go_meet
                  case rel => exact ⟨⟨_, rfl⟩, rfl⟩
            · go_wp2_with fail
              go_meet
              case rel => exact ⟨⟨_, rfl⟩, rfl⟩
          case rest =>
            obtain ⟨⟨x, rfl⟩, rfl⟩ := hcut
            go_upto_if 114 with (fail)
            go_cut [15, 16, 17] from 114 to 114 (fun v15 v16 v17 w' => ∃ (Q : Int) (n ge : Nat), v15 = .int .i64 n ∧ v16 = .int .u8 Q ∧ v17 = .slice (some ⟨ge, 0, none⟩) 5 5 ∧ Hd (Q = 34 ∨ Q = 39) ∧ Hd (n = T.length + 2 + 4 * T.count Q) ∧ Hd (Below w.heap.size w w') ∧ Hd (∃ f, w'.heap[ge]? = some (.cells ((entE Q).map (Value.int .u8)).toArray 5 f)))
            case first =>
              cases x
              · go_wp2_with fail
                refine Ent39_calls.mono ?_
                rintro e w2 ⟨rfl, k1, k2, k3⟩
                have K1 := Hd.mk k1
                have K2 := Hd.mk k2
                clear k1 k2 k3
                go_wp2_with fail
                go_meet
                case rel => exact ⟨39, T.length + 2 + 4 * T.count 39, _, by rw [← HS.out.1]; congr 1; omega, rfl, rfl, ⟨.inr rfl⟩, ⟨rfl⟩, K2, K1⟩
              · go_wp2_with fail
                refine Ent34_calls.mono ?_
                rintro e w2 ⟨rfl, k1, k2, k3⟩
                have K1 := Hd.mk k1
                have K2 := Hd.mk k2
                clear k1 k2 k3
                go_wp2_with fail
                go_meet
                case rel => exact ⟨34, T.length + 2 + 4 * T.count 34, _, by rw [← HS.out.2]; congr 1; omega, rfl, rfl, ⟨.inl rfl⟩, ⟨rfl⟩, K2, K1⟩
            case rest =>
              obtain ⟨Q, n, ge, rfl, rfl, rfl, HQ, HN, HK, HE⟩ := hcut
              rename World => wd
              have cs : T.count Q ≤ 500 := by have := List.count_le_length (a := Q) (l := T); omega
              have hn5 : n ≤ 2600 := by have := HN.out; omega
              have hn2 : 2 ≤ n := by have := HN.out; omega
              have hbw := HK.out
              have HPc := Hd.mk ((hbw.block gp HG.out.2.1).trans HP.out)
              have HBc := Hd.mk ((hbw.block gb HG.out.1).trans HB.out)
              have hgp : gp < wd.heap.size := lt_of_heap HPc.out
              have hgb : gb < wd.heap.size := lt_of_heap HBc.out
              have hge : ge < wd.heap.size := by obtain ⟨f, hf⟩ := HE.out; exact lt_of_heap hf
              have cpc : wd.cell? ⟨gp, 0, none⟩ = some (.slice (some ⟨g0, 0, none⟩) 0 0) := (cell_of_block HPc.out 0).trans rfl
              have fpc := frozen_of_block HPc.out 0
              have hB2c := Hd.mk (Nat.le_trans HB2.out hbw.size)
              obtain ⟨cur, w3, M⟩ := made_of HPc.out HBc.out HG.out.2.2 HB1.out hB2c.out n (by omega)
              obtain ⟨R, D1⟩ := laid_of (w := w) Q M.e3 M.b3 (Nat.ne_of_gt hgb) (by omega)
              have HE3 : Hd (∃ f, w3.heap[ge]? = some (.cells ((entE Q).map (Value.int .u8)).toArray 5 f)) := ⟨by obtain ⟨f, hf⟩ := HE.out; refine ⟨f, (M.kept ge hge ?_).trans hf⟩; rintro rfl; rw [HPc.out] at hf; simp at hf⟩
              have HB3 := Hd.mk M.b3
              obtain ⟨v3, c3⟩ := D1.c3
              have hmk := M.run
              have hp1 := M.p1.trans cpc
              have hf1 := M.f1
              have hw3 := M.w3e
              have hp3 := M.p3
              have f3 := D1.f3
              have HGB := Hd.mk hgb
              have HGE := Hd.mk hge
              have na : (0 : Int) < (n : Int) := by omega
              have nb : 0 < n := by omega
              have nc : (2 : Int) ≤ (n : Int) := by omega
              have MM := Hd.mk M
              have DD := Hd.mk D1
              clear M D1 hbw cs hgb hge hgp
              go_upto_block 2 with (fail)
              clear hmk hp1 hf1 hw3 hp3 c3 f3 na nb nc cpc fpc hn2
              go_cut [19, 20] from 145 to 145 (fun v19 v20 w' => ∃ st j : Nat, v19 = .int .i64 j ∧ v20 = .int .i64 st ∧ Hd (EI T Q n T.length st j) ∧ Hd (Es w3 w' wd.heap.size n (Q :: escQ Q (T.take st))))
              case first =>
                go_wp2_with fail
                go_loopg [19, 20, 145] T.length (fun gk v19 v20 v145 w' => ∃ k st j : Nat, v19 = .int .i64 j ∧ v20 = .int .i64 st ∧ v145 = .int .i64 k ∧ Hd (k + gk = T.length) ∧ Hd (EI T Q n k st j) ∧ Hd (Es w3 w' wd.heap.size n (Q :: escQ Q (T.take st))))
                case atStart => exact ⟨0, 0, 1, rfl, rfl, rfl, ⟨by omega⟩, ⟨EI.start HN.out⟩, ⟨DD.out.e4⟩⟩
                case round =>
                  obtain ⟨k, st, j, rfl, rfl, rfl, HKG, HI, HS4⟩ := hrel
                  cases gk with
                  | zero =>
                    have hk : k = T.length := by have := HKG.out; omega
                    subst hk
                    go_wp2_with fail
                    go_meet
                    case rel => exact ⟨st, j, rfl, rfl, HI, HS4⟩
                  | succ gk =>
                    have hlt : k < T.length := by have := HKG.out; omega
                    have hkl : (k : Int) < (T.length : Int) := by omega
                    have hk0 : (0 : Int) ≤ (k : Int) := by omega
                    have hcell : wr.cell? ⟨gb, k, none⟩ = some (.int .u8 (T.getD k 0)) := HS4.out.cell (p := ⟨gb, k, none⟩) HGB.out (by rw [cell_of_block HB3.out, List.getElem?_toArray]; exact bytes_at hlt)
                    by_cases hcq : T.getD k 0 = Q
                    · have HCQ := Hd.mk hcq
                      rw [hcq] at hcell
                      clear hcq
                      obtain ⟨m, ja, jb, F⟩ := hit_facts HI.out hlt HCQ.out h5 hn5
                      obtain ⟨R4, r1, r2⟩ := HS4.out.row
                      have HR1 := Hd.mk r1
                      have HR2 := Hd.mk r2
                      clear r1 r2
                      go_wp2_with fail
                      have hm := F.hm
                      have j0 := F.j0
                      have j1 := F.j1
                      have j2 := F.j2
                      have j3 := F.j3
                      have s1 := F.s1
                      have s2 := F.s2
                      have s3 := F.s3
                      have s4 := F.s4
                      have k2 := F.k2
                      have HF := Hd.mk F
                      clear F
                      go_cut [19] from 162 to 162 (fun v19 w' => v19 = .int .i64 (ja : Int) ∧ Hd (Es w3 w' wd.heap.size n ((Q :: escQ Q (T.take st)) ++ (T.drop st).take m)))
                      case first =>
                        have w1 := HF.out.w1
                        have w2 := HF.out.w2
                        go_region_law (refine step_copy_splice rfl (.tmp 156) (.tmp 160) 25 25 rfl 5 Tryz.underlying25 size5m (some ⟨wd.heap.size, j, none⟩) (some ⟨gb, st, none⟩) (n - j) (n - j) m (T.length - st) (by simp [Act.eval, Act.put]; done) (by simp [Act.eval, Act.put]; done) wd.heap.size j _ 5 HR1.out (((T.drop st).take m).map (Value.int .u8)) (by rw [List.length_map, HF.out.yl]; exact HF.out.mn) (fun _ => ⟨rfl, _, rfl, src_es HS4.out.drew HB3.out HGB.out st m⟩) (by rw [List.length_map, HF.out.yl, HR2.out]; exact HF.out.f0) (one_cells _) wd.heap.size _ (Below.refl _ _) (Nat.le_refl _) ?_; intro w5 g5 b5; rw [List.length_map, HF.out.yl])
                        go_wp2_with fail
                        go_meet
                        case rel => exact ⟨by first | rfl | (rw [w1]; done) | (simp only [w1]; done), ⟨HS4.out.drew.copy2 HR1.out HF.out.j8 g5.out b5 (by rw [HF.out.yl]; exact HF.out.f0)⟩⟩
                      case rest =>
                        obtain ⟨rfl, HS5⟩ := hcut
                        obtain ⟨R5, r1, r2⟩ := HS5.out.row
                        obtain ⟨fe, hfe⟩ := HE3.out
                        have HR5 := Hd.mk r1
                        have HR6 := Hd.mk r2
                        have HFE := Hd.mk hfe
                        clear r1 r2 hfe
                        have j4 := HF.out.j4
                        have j5 := HF.out.j5
                        have j6 := HF.out.j6
                        have j7 := HF.out.j7
                        go_wp2_with (with_reducible refine wpList_copy_splice (o := ⟨some 168, _, _, _, _, _⟩) rfl (.tmp 166) (.tmp 167) 25 25 rfl 5 Tryz.underlying25 size5m (some ⟨wd.heap.size, ja, none⟩) (some ⟨ge, 0, none⟩) (n - ja) (n - ja) 5 5 (by simp [Act.eval, Act.put]; done) (by simp [Act.eval, Act.put]; done) wd.heap.size ja _ 5 HR5.out ((entE Q).map (Value.int .u8)) (by rw [List.length_map, entE_len]; exact HF.out.mn5) (fun _ => ⟨rfl, _, rfl, src_ent HS5.out HFE.out HGE.out⟩) (by rw [List.length_map, entE_len, HR6.out]; exact HF.out.f5) (one_cells _) wd.heap.size _ (Below.refl _ _) (Nat.le_refl _) ?_; intro w6 g6 b6; rw [List.length_map, entE_len]; have H6 := Hd.mk (HS5.out.copy2 HR5.out HF.out.ej g6.out b6 (by rw [entE_len]; exact HF.out.f5)); clear g6 b6)
                        go_roundg gk
                        case measure => exact Nat.lt_succ_self _
                        case rel => exact ⟨k + 1, k + 1, jb, by first | rfl | (rw [HF.out.w4]; done) | (rw [HF.out.w3]; done) | simp [HF.out.w4], by first | rfl | go_num, by first | rfl | go_num, ⟨by have := HKG.out; omega⟩, ⟨HF.out.ei⟩, ⟨by have := H6.out; rw [HF.out.mid] at this; exact this⟩⟩
                    · have hcb : (T.getD k 0 == Q) = false := beq_eq_false_iff_ne.mpr hcq
                      have HI2 := Hd.mk (HI.out.skip hlt hcq)
                      clear hcq
                      generalize T.getD k 0 = c at hcell hcb
                      go_wp2_with fail
                      go_roundg gk
                      case measure => exact Nat.lt_succ_self _
                      case rel => exact ⟨k + 1, st, j, rfl, rfl, by go_num, ⟨by have := HKG.out; omega⟩, HI2, HS4⟩
              case rest =>
                obtain ⟨st, j, rfl, rfl, HI, HS4⟩ := hcut
                obtain ⟨m, ja, F⟩ := end_facts HI.out h5 hn5
                obtain ⟨R4, r1, r2⟩ := HS4.out.row
                have HR1 := Hd.mk r1
                have HR2 := Hd.mk r2
                have hm := F.hm
                have j0 := F.j0
                have j1 := F.j1
                have j2 := F.j2
                have j3 := F.j3
                have s1 := F.s1
                have HF := Hd.mk F
                clear F r1 r2
                go_upto_region 48 with (fail)
                go_cut [19] from 181 to 181 (fun v19 w' => v19 = .int .i64 (ja : Int) ∧ Hd (Es w3 w' wd.heap.size n (Q :: escQ Q T)))
                case first =>
                  have w1 := HF.out.w1
                  have w2 := HF.out.w2
                  by_cases hst : st = T.length
                  · subst hst
                    have hm0 : m = 0 := by rw [← HF.out.hm, Nat.sub_self]
                    have hja : ja = j := by rw [HF.out.aj, hm0, Nat.add_zero]
                    subst hm0
                    subst hja
                    clear hm w1 w2
                    go_region_law (refine step_copy_splice rfl (.tmp 176) (.tmp 179) 25 25 rfl 5 Tryz.underlying25 size5m (some ⟨wd.heap.size, ja, none⟩) (some ⟨gb, 0, none⟩) (n - ja) (n - ja) 0 0 (by simp [Act.eval, Act.put]; done) (by simp [Act.eval, Act.put]; done) wd.heap.size ja _ 5 HR1.out (((T.drop T.length).take 0).map (Value.int .u8)) (by rw [List.length_map, HF.out.yl]; exact HF.out.mn) (fun h => absurd h (by rw [List.length_map, HF.out.yl]; exact Nat.lt_irrefl _)) (by rw [List.length_map, HF.out.yl, HR2.out]; exact HF.out.f0) (one_cells _) wd.heap.size _ (Below.refl _ _) (Nat.le_refl _) ?_; intro w5 g5 b5; rw [List.length_map, HF.out.yl])
                    go_wp2_with fail
                    go_meet
                    case rel => exact ⟨by first | rfl | (simp [HF.out.wa]; done), ⟨by have := HS4.out.drew.copy2 HR1.out HF.out.j8 g5.out b5 (by rw [HF.out.yl]; exact HF.out.f0); rw [HF.out.fin] at this; exact this⟩⟩
                  · have hst' : ¬ T.length = st := fun e => hst e.symm
                    go_region_law (refine step_copy_splice rfl (.tmp 176) (.tmp 179) 25 25 rfl 5 Tryz.underlying25 size5m (some ⟨wd.heap.size, j, none⟩) (some ⟨gb, st, none⟩) (n - j) (n - j) m m (by simp [Act.eval, Act.put]; done) (by simp [Act.eval, Act.put]; done) wd.heap.size j _ 5 HR1.out (((T.drop st).take m).map (Value.int .u8)) (by rw [List.length_map, HF.out.yl]; exact HF.out.mn) (fun _ => ⟨rfl, _, rfl, src_es HS4.out.drew HB3.out HGB.out st m⟩) (by rw [List.length_map, HF.out.yl, HR2.out]; exact HF.out.f0) (one_cells _) wd.heap.size _ (Below.refl _ _) (Nat.le_refl _) ?_; intro w5 g5 b5; rw [List.length_map, HF.out.yl])
                    go_wp2_with fail
                    go_meet
                    case rel => exact ⟨by first | rfl | (rw [w1]; done) | (simp only [w1]; done), ⟨by have := HS4.out.drew.copy2 HR1.out HF.out.j8 g5.out b5 (by rw [HF.out.yl]; exact HF.out.f0); rw [HF.out.fin] at this; exact this⟩⟩
                case rest =>
                  obtain ⟨rfl, HS5⟩ := hcut
                  have j4 := HF.out.j4
                  have j5 := HF.out.j5
                  have j9 := HF.out.j9
                  have w3' := HF.out.w3
                  obtain ⟨v5, c5⟩ := HS5.out.at j5
                  have f5 := HS5.out.frozen
                  go_wp2_with fail
                  go_ret
                  exact esc_end HQ.out HZ.out hn5 (HK.out.mono HB2.out) MM.out.below (Nat.le_trans HB2.out HK.out.size) HS5.out HF.out.ej HF.out.e1
end Go.Proofs.YtfcedenofbefcaaGreatDoor
