import Derived.Test.YteonakpgenkhkaaDoorL5
namespace Go.Proofs.YteonakpgenkhkaaDoor
open Go.RowKit
set_option linter.unusedVariables false
set_option linter.unusedSimpArgs false
theorem below_drewN' {B : Nat} {a w : World} (h : Below B a w) (n : Nat) : Below B a (w.drewN n) := ⟨h.os, h.tape, h.output, h.size, h.block⟩
set_option maxRecDepth 100000 in
theorem and7 : ∀ X : Fin 256, bits .and .u8 ((X.val : Nat) : Int) 7 = ((X.val % 8 : Nat) : Int) := by decide
def ValidPost (T : List Int) (w : World) (e : Ending) (w' : World) : Prop := (∃ v, e = .returned (.bool v) ∧ (v = true → Utf8 T)) ∧ Below w.heap.size w w'
structure Uf (T : List Int) (k m : Nat) (b o : Nat) (A : Option Addr) (w0 w : World) : Prop where
  sum : k + m = T.length
  addr : 0 < m → A = some ⟨b, o + k, none⟩
  ok : Utf8 (T.drop k) → Utf8 T
  mem : Below w0.heap.size w0 w
set_option maxHeartbeats 16000000 in
set_option maxRecDepth 100000 in
theorem Valid_calls {w : World} {A : Option Addr} {T : List Int} {cp : Nat} (h : Bytes w A T) (hT : isU8 T) (hcp : T.length ≤ cp) (hx : Lib.Utf8Tabs 1 2 w) :
    Calls Tryd.prog 36 #[.slice A T.length cp] w (ValidPost T w) := by
  have hlen := h.len
  by_cases hn : T.length = 0
  · obtain rfl := List.eq_nil_of_length_eq_zero hn
    simp only [List.length_nil]
    go_enter Tryd.func36, Tryd.ntmps36
    go_wp2_with fail
    go_loopg [0] 1 (fun gk v0 w' => v0 = .slice A 0 0 ∧ w' = w)
    case atStart => exact ⟨rfl, rfl⟩
    case round =>
      obtain ⟨rfl, rfl⟩ := hrel
      go_wp2_with fail
      go_ret
      exact ⟨⟨true, rfl, fun _ => .nil⟩, Below.refl _ _⟩
  obtain ⟨b, o, rfl, hc⟩ := h.cells (by omega)
  have hn' : ¬ (T.length = 0) := hn
  have HC := Hd.mk hc
  have HX := Hd.mk hx
  have HB := Hd.mk h
  clear hc hx h
  go_enter Tryd.func36, Tryd.ntmps36
  go_wp2
  go_loopg [0] (T.length + 1) (fun gk v0 w' => ∃ (k m : Nat) (A' : Option Addr), v0 = .slice A' m m ∧ Hd (m < gk) ∧ Hd (Uf T k m b o A' w w'))
  case atStart => exact ⟨0, T.length, _, rfl, ⟨by omega⟩, ⟨⟨by omega, fun _ => rfl, fun h => h, Below.refl _ _⟩⟩⟩
  case round =>
    obtain ⟨k, m, A', rfl, hg, hU⟩ := hrel
    cases gk with
    | zero => exact absurd hg.out (by omega)
    | succ gk =>
    by_cases hm : 0 < m
    · obtain ⟨m, rfl⟩ : ∃ i, m = i + 1 := ⟨m - 1, by omega⟩
      have hA := hU.out.addr hm
      subst hA
      have hkl : k < T.length := by have := hU.out.sum; omega
      have hc0 : wr.cell? ⟨b, o + k, none⟩ = some (.int .u8 (T.getD k 0)) := (hU.out.mem.cell (World.block_lt_of_cell? _ _ (HC.out k hkl))).trans (HC.out k hkl)
      have hz := Hd.mk (hT k hkl)
      obtain ⟨x0, ex⟩ : ∃ x, T.getD k 0 = x := ⟨_, rfl⟩
      rw [ex] at hc0 hz
      have EX := Hd.mk ex
      clear ex
      by_cases ha : x0 < 128
      · as_aux_lemma =>
            have hd := decide_eq_true ha
            have hz1 : Utf8 (T.drop (k + 1)) → Utf8 T := fun hu => hU.out.ok (by rw [drop_cons T k hkl, EX.out]; exact .one ⟨hz.out.1, ha⟩ hu)
            have HZ := Hd.mk hz1
            clear hz1
            have HK : Hd (k + 1 + m = T.length) := ⟨by have := hU.out.sum; omega⟩
            have hB0 := Hd.mk hU.out.mem
            have hW : Hd (∀ j, j < T.length → wr.cell? ⟨b, o + j, none⟩ = some (.int .u8 (T.getD j 0))) := ⟨fun j hj => (hU.out.mem.cell (World.block_lt_of_cell? _ _ (HC.out j hj))).trans (HC.out j hj)⟩
            go_upto_region 6 with fail
            obtain ⟨A1, hA1⟩ : ∃ A1 : Option Addr, (if m = 0 then some (⟨b, o + k, none⟩ : Addr) else some ⟨b, o + k + 1, none⟩) = A1 := ⟨_, rfl⟩
            rw [hA1]
            have HA1 : Hd (0 < m → A1 = some ⟨b, o + (k + 1), none⟩) := ⟨fun h => by rw [← hA1, if_neg (by omega)]; rfl⟩
            clear hA1
            go_cut [31] (fun v31 w' => ∃ b6 : Bool, v31 = .bool b6 ∧ Hd (b6 = true → 8 < m ∧ Asc T (k + 1) 8) ∧ Hd (Below w.heap.size w w'))
            case first =>
              as_aux_lemma =>
                by_cases h8 : 8 < m
                · have h8d : decide (8 < (m : Int)) = true := decide_eq_true (by omega)
                  have hA := HA1.out (by omega)
                  subst hA
                  have hk8 : k + 1 + 8 ≤ T.length := by have := HK.out; omega
                  have lA1 := W8_lt T (k + 1)
                  have hand : bits .and .u64 (W8 T (k + 1) : Int) 9259542123273814144 = ((W8 T (k + 1) &&& 9259542123273814144 : Nat) : Int) := u64_and_nat (W8 T (k + 1)) 9259542123273814144 lA1 (by omega)
                  have kA1 := W8_asc hT hk8
                  have cW := word_at (m := m) (c := m) hT hW.out hk8 (by omega)
                  obtain ⟨N, hN⟩ : ∃ N, W8 T (k + 1) = N := ⟨_, rfl⟩
                  rw [hN] at hand kA1 cW
                  obtain ⟨Z, hZ⟩ : ∃ Z, N &&& 9259542123273814144 = Z := ⟨_, rfl⟩
                  rw [hZ] at hand kA1
                  have KA := Hd.mk kA1
                  have CW := Hd.mk cW
                  clear kA1 cW hN hZ lA1
                  by_cases hz : Z = 0
                  · have hzb : ((Z : Int) == 0) = true := by simp [hz]
                    have KZ := Hd.mk (KA.out hz)
                    clear hz
                    go_wp2_with fail
                    refine CW.out.mono ?_
                    rintro e w1 ⟨rfl, q, rfl⟩
                    go_wp2_with fail
                    go_meet
                    case rel => exact ⟨true, rfl, ⟨fun _ => ⟨h8, KZ.out⟩⟩, ⟨below_drewN' hB0.out q⟩⟩
                  · have hzb : ((Z : Int) == 0) = false := by simp; omega
                    clear hz
                    go_wp2_with fail
                    refine CW.out.mono ?_
                    rintro e w1 ⟨rfl, q, rfl⟩
                    go_wp2_with fail
                    go_meet
                    case rel => exact ⟨false, rfl, ⟨by simp⟩, ⟨below_drewN' hB0.out q⟩⟩
                · have h8d : decide (8 < (m : Int)) = false := decide_eq_false (by omega)
                  go_wp2_with fail
                  go_meet
                  case rel => exact ⟨false, rfl, ⟨by simp⟩, hB0⟩
            case rest =>
              as_aux_lemma =>
                obtain ⟨b6, rfl, h6, hB6⟩ := hcut
                clear hB0 hW hU
                cases b6 with
                | false =>
                  go_wp2_with fail
                  go_roundg gk
                  case measure => exact Nat.lt_succ_self _
                  case rel => exact ⟨k + 1, m, A1, rfl, ⟨by have := hg.out; omega⟩, ⟨⟨HK.out, HA1.out, HZ.out, hB6.out⟩⟩⟩
                | true =>
                  obtain ⟨h8, has⟩ := h6.out rfl
                  clear h6
                  have hA := HA1.out (by omega)
                  subst hA
                  obtain ⟨m, rfl⟩ : ∃ i, m = i + 1 + 8 := ⟨m - 9, by omega⟩
                  have HZ8 : Hd (Utf8 (T.drop (k + 1 + 8)) → Utf8 T) := ⟨fun hu => HZ.out (Utf8.skip hT 8 (k + 1) (by have := HK.out; omega) has hu)⟩
                  have HK8 : Hd (k + 1 + 8 + (m + 1) = T.length) := ⟨by have := HK.out; omega⟩
                  have HG8 : Hd (m + 1 < gk) := ⟨by have := hg.out; omega⟩
                  clear h8 has HZ HK hg HA1
                  go_upto_region 8 with fail
                  rw [Nat.add_assoc o]
                  have EB : ∀ j, j < T.length → wc.cell? ⟨b, o + j, none⟩ = some (.int .u8 (T.getD j 0)) := fun j hj => (hB6.out.cell (World.block_lt_of_cell? _ _ (HC.out j hj))).trans (HC.out j hj)
                  have hW8 : Hd (∀ q j, j < T.length → (wc.drewN q).cell? ⟨b, o + j, none⟩ = some (.int .u8 (T.getD j 0))) := ⟨fun q j hj => EB j hj⟩
                  clear EB
                  generalize k + 1 + 8 = k8 at *
                  go_cut [46] (fun v46 w' => ∃ b8 : Bool, v46 = .bool b8 ∧ Hd (b8 = true → 16 < m + 1 ∧ Asc T k8 16) ∧ Hd (Below w.heap.size w w'))
                  case first =>
                    as_aux_lemma =>
                      by_cases h16 : 16 < m + 1
                      · obtain ⟨m2, rfl⟩ : ∃ i, m = i + 16 := ⟨m - 16, by omega⟩
                        have h16e : decide ((16 : Int) < (m2 : Int) + 16 + 1) = true := decide_eq_true (by omega)
                        have w0 : ∀ q, Calls Tryd.prog 73 #[.slice (some ⟨b, o + k8, none⟩) (m2 + 16 + 1) (m2 + 16 + 1)] (wc.drewN q) fun e w' => e = .returned (.int .u64 (W8 T k8)) ∧ ∃ q', w' = (wc.drewN q).drewN q' := fun q => word_at hT (hW8.out q) (by have := HK8.out; omega) (by omega)
                        have l0 := W8_lt T k8
                        have a0 := W8_asc hT (k := k8) (by have := HK8.out; omega)
                        obtain ⟨N0, hN0⟩ : ∃ N, W8 T k8 = N := ⟨_, rfl⟩
                        rw [hN0] at w0 l0 a0
                        have C0 := Hd.mk w0; clear w0 hN0
                        have w1 : ∀ q, Calls Tryd.prog 73 #[.slice (some ⟨b, o + k8 + 8, none⟩) (m2 + 9) (m2 + 9)] (wc.drewN q) fun e w' => e = .returned (.int .u64 (W8 T (k8 + 8))) ∧ ∃ q', w' = (wc.drewN q).drewN q' := fun q => by rw [Nat.add_assoc o k8 8]; exact word_at hT (hW8.out q) (by have := HK8.out; omega) (by omega)
                        have l1 := W8_lt T (k8 + 8)
                        have a1 := W8_asc hT (k := (k8 + 8)) (by have := HK8.out; omega)
                        obtain ⟨N1, hN1⟩ : ∃ N, W8 T (k8 + 8) = N := ⟨_, rfl⟩
                        rw [hN1] at w1 l1 a1
                        have C1 := Hd.mk w1; clear w1 hN1
                        have hor : bits .or .u64 (N0 : Int) (N1 : Int) = ((N0 ||| N1 : Nat) : Int) := u64_or_nat N0 N1 l0 l1
                        have lor : N0 ||| N1 < 18446744073709551616 := Nat.or_lt_two_pow (n := 64) l0 l1
                        have hand : bits .and .u64 ((N0 ||| N1 : Nat) : Int) 9259542123273814144 = (((N0 ||| N1) &&& 9259542123273814144 : Nat) : Int) := u64_and_nat _ 9259542123273814144 lor (by omega)
                        have kz : (N0 ||| N1) &&& 9259542123273814144 = 0 → Asc T k8 16 := fun h => by
                          obtain ⟨e0, e1⟩ := (Lib.or_mask _ _ _).1 h
                          exact (a0 e0).add (a1 e1)
                        obtain ⟨O, hO⟩ : ∃ O, N0 ||| N1 = O := ⟨_, rfl⟩
                        rw [hO] at hor hand kz
                        obtain ⟨Z, hZ⟩ : ∃ Z, O &&& 9259542123273814144 = Z := ⟨_, rfl⟩
                        rw [hZ] at hand kz
                        have KZ := Hd.mk kz
                        clear kz hO hZ lor l0 l1 a0 a1
                        by_cases hz : Z = 0
                        · have hzb : ((Z : Int) == 0) = true := by simp [hz]
                          have KA : Hd (Asc T k8 16) := ⟨KZ.out hz⟩
                          clear hz KZ
                          go_wp2_with fail
                          go_big_quiet (first | (with_reducible exact Calls.quiet_of (C0.out _)) | (with_reducible exact Calls.quiet_of (C1.out _)))
                          go_wp2_with fail
                          go_meet
                          case rel => exact ⟨true, rfl, ⟨fun _ => ⟨by omega, KA.out⟩⟩, ⟨below_drewN' hB6.out _⟩⟩
                        · have hzb : ((Z : Int) == 0) = false := by simp; omega
                          clear hz KZ
                          go_wp2_with fail
                          go_big_quiet (first | (with_reducible exact Calls.quiet_of (C0.out _)) | (with_reducible exact Calls.quiet_of (C1.out _)))
                          go_wp2_with fail
                          go_meet
                          case rel => exact ⟨false, rfl, ⟨by simp⟩, ⟨below_drewN' hB6.out _⟩⟩
                      · have h16e : decide ((16 : Int) < (m : Int) + 1) = false := decide_eq_false (by omega)
                        go_wp2_with fail
                        go_quiet (fail)
                        go_wp2_with fail
                        go_meet
                        case rel => exact ⟨false, rfl, ⟨by simp⟩, ⟨below_drewN' hB6.out _⟩⟩
                  case rest =>
                    as_aux_lemma =>
                      obtain ⟨b8, rfl, h8, hB8⟩ := hcut
                      clear hB6 hW8
                      cases b8 with
                      | false =>
                        go_wp2_with fail
                        go_roundg gk
                        case measure => exact Nat.lt_succ_self _
                        case rel => exact ⟨k8, m + 1, _, rfl, HG8, ⟨⟨HK8.out, fun _ => rfl, HZ8.out, hB8.out⟩⟩⟩
                      | true =>
                        obtain ⟨h16, has⟩ := h8.out rfl
                        clear h8
                        obtain ⟨m, rfl⟩ : ∃ i, m = i + 16 := ⟨m - 16, by omega⟩
                        have HU9 : Hd (Uf T (k8 + 16) (m + 1) b o (some ⟨b, o + (k8 + 16), none⟩) w wc) := ⟨⟨by have := HK8.out; omega, fun _ => rfl, fun hu => HZ8.out (Utf8.skip hT 16 k8 (by have := HK8.out; omega) has hu), hB8.out⟩⟩
                        have HG9 : Hd (m + 1 < gk) := ⟨by have := HG8.out; omega⟩
                        clear h16 has HK8 HZ8 HG8 hB8
                        generalize gk = G at *
                        go_wp2_with fail
                        go_loopg [0] (m + 2) (fun gk v0 w' => ∃ (k m' : Nat) (A' : Option Addr), v0 = .slice A' m' m' ∧ Hd (m' < gk) ∧ Hd (m' ≤ m + 1) ∧ Hd (Uf T k m' b o A' w w'))
                        case atStart => exact ⟨k8 + 16, m + 1, _, rfl, ⟨by omega⟩, ⟨Nat.le_refl _⟩, HU9⟩
                        case round =>
                          clear HU9
                          obtain ⟨k8, m', A', rfl, hg, hle, hU⟩ := hrel
                          have HG : Hd (m' < G) := ⟨by have := hle.out; have := HG9.out; omega⟩
                          cases gk with
                          | zero => exact absurd hg.out (by omega)
                          | succ gk =>
                          have EB : ∀ j, j < T.length → wr.cell? ⟨b, o + j, none⟩ = some (.int .u8 (T.getD j 0)) := fun j hj => (hU.out.mem.cell (World.block_lt_of_cell? _ _ (HC.out j hj))).trans (HC.out j hj)
                          have hW8 : Hd (∀ q j, j < T.length → (wr.drewN q).cell? ⟨b, o + j, none⟩ = some (.int .u8 (T.getD j 0))) := ⟨fun q j hj => EB j hj⟩
                          clear EB
                          by_cases h32 : 32 < m'
                          · obtain ⟨m3, rfl⟩ : ∃ i, m' = i + 1 + 32 := ⟨m' - 33, by omega⟩
                            have hA := hU.out.addr (by omega)
                            subst hA
                            have hks := hU.out.sum
                            have HKS := Hd.mk hks
                            clear hks
                            have h32e : decide ((32 : Int) < (m3 : Int) + 1 + 32) = true := decide_eq_true (by omega)
                            have w0 : ∀ q, Calls Tryd.prog 73 #[.slice (some ⟨b, o + k8, none⟩) (m3 + 1 + 32) (m3 + 1 + 32)] (wr.drewN q) fun e w' => e = .returned (.int .u64 (W8 T k8)) ∧ ∃ q', w' = (wr.drewN q).drewN q' := fun q => word_at hT (hW8.out q) (by have := HKS.out; omega) (by omega)
                            have l0 := W8_lt T k8
                            have a0 := W8_asc hT (k := k8) (by have := HKS.out; omega)
                            obtain ⟨N0, hN0⟩ : ∃ N, W8 T k8 = N := ⟨_, rfl⟩
                            rw [hN0] at w0 l0 a0
                            have C0 := Hd.mk w0; clear w0 hN0
                            have w1 : ∀ q, Calls Tryd.prog 73 #[.slice (some ⟨b, o + k8 + 8, none⟩) (m3 + 25) (m3 + 25)] (wr.drewN q) fun e w' => e = .returned (.int .u64 (W8 T (k8 + 8))) ∧ ∃ q', w' = (wr.drewN q).drewN q' := fun q => by rw [Nat.add_assoc o k8 8]; exact word_at hT (hW8.out q) (by have := HKS.out; omega) (by omega)
                            have l1 := W8_lt T (k8 + 8)
                            have a1 := W8_asc hT (k := (k8 + 8)) (by have := HKS.out; omega)
                            obtain ⟨N1, hN1⟩ : ∃ N, W8 T (k8 + 8) = N := ⟨_, rfl⟩
                            rw [hN1] at w1 l1 a1
                            have C1 := Hd.mk w1; clear w1 hN1
                            have w2 : ∀ q, Calls Tryd.prog 73 #[.slice (some ⟨b, o + k8 + 16, none⟩) (m3 + 17) (m3 + 17)] (wr.drewN q) fun e w' => e = .returned (.int .u64 (W8 T (k8 + 16))) ∧ ∃ q', w' = (wr.drewN q).drewN q' := fun q => by rw [Nat.add_assoc o k8 16]; exact word_at hT (hW8.out q) (by have := HKS.out; omega) (by omega)
                            have l2 := W8_lt T (k8 + 16)
                            have a2 := W8_asc hT (k := (k8 + 16)) (by have := HKS.out; omega)
                            obtain ⟨N2, hN2⟩ : ∃ N, W8 T (k8 + 16) = N := ⟨_, rfl⟩
                            rw [hN2] at w2 l2 a2
                            have C2 := Hd.mk w2; clear w2 hN2
                            have w3 : ∀ q, Calls Tryd.prog 73 #[.slice (some ⟨b, o + k8 + 24, none⟩) (m3 + 9) (m3 + 9)] (wr.drewN q) fun e w' => e = .returned (.int .u64 (W8 T (k8 + 24))) ∧ ∃ q', w' = (wr.drewN q).drewN q' := fun q => by rw [Nat.add_assoc o k8 24]; exact word_at hT (hW8.out q) (by have := HKS.out; omega) (by omega)
                            have l3 := W8_lt T (k8 + 24)
                            have a3 := W8_asc hT (k := (k8 + 24)) (by have := HKS.out; omega)
                            obtain ⟨N3, hN3⟩ : ∃ N, W8 T (k8 + 24) = N := ⟨_, rfl⟩
                            rw [hN3] at w3 l3 a3
                            have C3 := Hd.mk w3; clear w3 hN3
                            have ho1 : bits .or .u64 (N0 : Int) (N1 : Int) = ((N0 ||| N1 : Nat) : Int) := u64_or_nat N0 N1 l0 l1
                            have ho2 : bits .or .u64 (N2 : Int) (N3 : Int) = ((N2 ||| N3 : Nat) : Int) := u64_or_nat N2 N3 l2 l3
                            have lo1 : N0 ||| N1 < 18446744073709551616 := Nat.or_lt_two_pow (n := 64) l0 l1
                            have lo2 : N2 ||| N3 < 18446744073709551616 := Nat.or_lt_two_pow (n := 64) l2 l3
                            have ho3 : bits .or .u64 ((N0 ||| N1 : Nat) : Int) ((N2 ||| N3 : Nat) : Int) = (((N0 ||| N1) ||| (N2 ||| N3) : Nat) : Int) := u64_or_nat _ _ lo1 lo2
                            have lo3 : (N0 ||| N1) ||| (N2 ||| N3) < 18446744073709551616 := Nat.or_lt_two_pow (n := 64) lo1 lo2
                            have hand : bits .and .u64 (((N0 ||| N1) ||| (N2 ||| N3) : Nat) : Int) 9259542123273814144 = ((((N0 ||| N1) ||| (N2 ||| N3)) &&& 9259542123273814144 : Nat) : Int) := u64_and_nat _ 9259542123273814144 lo3 (by omega)
                            have kz : ((N0 ||| N1) ||| (N2 ||| N3)) &&& 9259542123273814144 = 0 → Asc T k8 32 := fun h => by
                              obtain ⟨e01, e23⟩ := (Lib.or_mask _ _ _).1 h
                              obtain ⟨e0, e1⟩ := (Lib.or_mask _ _ _).1 e01
                              obtain ⟨e2, e3⟩ := (Lib.or_mask _ _ _).1 e23
                              exact (((a0 e0).add (a1 e1)).add (a2 e2)).add (a3 e3)
                            obtain ⟨P1, hP1⟩ : ∃ P1, N0 ||| N1 = P1 := ⟨_, rfl⟩
                            obtain ⟨P2, hP2⟩ : ∃ P2, N2 ||| N3 = P2 := ⟨_, rfl⟩
                            rw [hP1, hP2] at ho3 hand kz
                            rw [hP1] at ho1
                            rw [hP2] at ho2
                            obtain ⟨P3, hP3⟩ : ∃ P3, P1 ||| P2 = P3 := ⟨_, rfl⟩
                            rw [hP3] at ho3 hand kz
                            obtain ⟨Z, hZ⟩ : ∃ Z, P3 &&& 9259542123273814144 = Z := ⟨_, rfl⟩
                            rw [hZ] at hand kz
                            have KZ := Hd.mk kz
                            clear kz hP1 hP2 hP3 hZ lo1 lo2 lo3 l0 l1 l2 l3 a0 a1 a2 a3
                            by_cases hz : Z = 0
                            · have hzb : ((Z : Int) == 0) = true := by simp [hz]
                              have KA : Hd (Asc T k8 32) := ⟨KZ.out hz⟩
                              clear hz KZ
                              go_wp2_with fail
                              go_big_quiet (first | (with_reducible exact Calls.quiet_of (C0.out _)) | (with_reducible exact Calls.quiet_of (C1.out _)) | (with_reducible exact Calls.quiet_of (C2.out _)) | (with_reducible exact Calls.quiet_of (C3.out _)))
                              go_wp2_with fail
                              go_roundg gk
                              case measure => exact Nat.lt_succ_self _
                              case rel => exact ⟨k8 + 32, m3 + 1, some ⟨b, o + (k8 + 32), none⟩, (by first | rfl | simp [Nat.add_assoc]), ⟨by have := hg.out; omega⟩, ⟨by have := hle.out; omega⟩, ⟨⟨by have := HKS.out; omega, fun _ => rfl, fun hu => hU.out.ok (Utf8.skip hT 32 k8 (by have := HKS.out; omega) KA.out hu), below_drewN' hU.out.mem _⟩⟩⟩
                            · have hzb : ((Z : Int) == 0) = false := by simp; omega
                              clear hz KZ
                              go_wp2_with fail
                              go_big_quiet (first | (with_reducible exact Calls.quiet_of (C0.out _)) | (with_reducible exact Calls.quiet_of (C1.out _)) | (with_reducible exact Calls.quiet_of (C2.out _)) | (with_reducible exact Calls.quiet_of (C3.out _)))
                              go_wp2_with fail
                              go_roundg G
                              case measure => exact Nat.lt_succ_self _
                              case rel => exact ⟨k8, m3 + 1 + 32, _, rfl, HG, ⟨⟨HKS.out, fun _ => rfl, hU.out.ok, below_drewN' hU.out.mem _⟩⟩⟩
                          · have h32e : decide ((32 : Int) < (m' : Int)) = false := decide_eq_false (by omega)
                            go_wp2_with fail
                            go_quiet (fail)
                            go_wp2_with fail
                            go_roundg G
                            case measure => exact Nat.lt_succ_self _
                            case rel => exact ⟨k8, m', _, rfl, HG, ⟨⟨hU.out.sum, hU.out.addr, hU.out.ok, below_drewN' hU.out.mem _⟩⟩⟩
      · have hd := decide_eq_false ha
        have hx0 := hz.out
        obtain ⟨X, hX⟩ : ∃ X, Lib.firstT x0.toNat = X := ⟨_, rfl⟩
        have hlt0 := World.block_lt_of_cell? _ _ (HX.out.1 0 (by omega))
        have hlt1 := World.block_lt_of_cell? _ _ (HX.out.2 0 (by omega)).1
        have hcX : wr.cell? ⟨1, x0.toNat, none⟩ = some (.int .u8 (X : Int)) := by rw [← hX]; exact (hU.out.mem.cell (p := ⟨1, x0.toNat, none⟩) hlt0).trans (HX.out.1 x0.toNat (by omega))
        have hXlt : X < 256 := by rw [← hX]; rcases Lib.firstT_cases x0.toNat with h | h | h | h | h | h | h | h | h <;> omega
        have ha0 : wr.cell? ⟨2, X / 16 * 2, none⟩ = some (.int .u8 (Lib.accLo (X / 16))) := by rw [Nat.mul_comm]; exact (hU.out.mem.cell (p := ⟨2, 2 * (X / 16), none⟩) hlt1).trans (HX.out.2 (X / 16) (by omega)).1
        have ha1 : wr.cell? ⟨2, X / 16 * 2 + 1, none⟩ = some (.int .u8 (Lib.accHi (X / 16))) := by rw [Nat.mul_comm]; exact (hU.out.mem.cell (p := ⟨2, 2 * (X / 16) + 1, none⟩) hlt1).trans (HX.out.2 (X / 16) (by omega)).2
        obtain ⟨LO, hLO⟩ : ∃ LO, Lib.accLo (X / 16) = LO := ⟨_, rfl⟩
        obtain ⟨HI, hHI⟩ : ∃ HI, Lib.accHi (X / 16) = HI := ⟨_, rfl⟩
        have facts : Hd ((X % 8 = 2 → 192 ≤ x0 ∧ x0 < 224 ∧ 128 ≤ LO ∧ HI < 192) ∧ (X % 8 = 3 → 224 ≤ x0 ∧ x0 < 240 ∧ 128 ≤ LO ∧ HI < 192) ∧ (X % 8 = 4 → 240 ≤ x0 ∧ x0 < 256 ∧ 128 ≤ LO ∧ HI < 192)) := by
          refine ⟨?_⟩
          subst hLO hHI hX
          unfold Lib.firstT
          repeat' split
          all_goals (simp [Lib.accLo, Lib.accHi]; try omega)
        rw [hLO] at ha0
        rw [hHI] at ha1
        have hx0n : ((x0.toNat : Nat) : Int) = x0 := by omega
        have h7 : bits .and .u8 (X : Int) 7 = ((X % 8 : Nat) : Int) := by have := and7 ⟨X, hXlt⟩; simpa using this
        obtain ⟨SZ, hSZ⟩ : ∃ SZ, X % 8 = SZ := ⟨_, rfl⟩
        have HSZ := Hd.mk hSZ
        rw [hSZ] at h7
        have hx255 : x0 < 256 := hx0.2
        have hx00 : 0 ≤ x0 := hx0.1
        clear hX hLO hHI hSZ hx0 hx0n ha
        have hEB : ∀ j, j < T.length → wr.cell? ⟨b, o + j, none⟩ = some (.int .u8 (T.getD j 0)) := fun j hj => (hU.out.mem.cell (World.block_lt_of_cell? _ _ (HC.out j hj))).trans (HC.out j hj)
        have hbl : b < wr.heap.size := World.block_lt_of_cell? _ _ hc0
        have hB1 : Hd (∀ n, Below w.heap.size w ((wr.alloc (.cells #[.int .u8 LO, .int .u8 HI] 70)).drewN n)) := ⟨fun n => below_drewN' (hU.out.mem.alloc hU.out.mem.size _) n⟩
        have hEC : Hd (∀ j, j < T.length → (wr.alloc (.cells #[.int .u8 LO, .int .u8 HI] 70)).cell? ⟨b, o + j, none⟩ = some (.int .u8 (T.getD j 0))) := ⟨fun j hj => (World.cell?_alloc_lt _ _ _ hbl).trans (hEB j hj)⟩
        have HKS := Hd.mk hU.out.sum
        have HG : Hd (m + 1 < gk + 1) := hg
        clear hEB hbl
        by_cases hs : SZ = 2
        · as_aux_lemma =>
            subst hs
            go_upto_region 18 with fail
            go_cut [103] (fun v103 w' => ∃ bb : Bool, v103 = .bool bb ∧ Hd (bb = false → 2 ≤ m + 1 ∧ 128 ≤ T.getD (k + 1) 0 ∧ T.getD (k + 1) 0 < 192) ∧ Hd (Below w.heap.size w w'))
            case first =>
              as_aux_lemma =>
                by_cases hl : m + 1 < 2
                · have hld : decide ((m : Int) + 1 < 2) = true := decide_eq_true (by omega)
                  go_wp2_with fail
                  go_big_quiet (fail)
                  go_wp2_with fail
                  go_meet
                  case rel => exact ⟨true, rfl, ⟨by simp⟩, ⟨hB1.out _⟩⟩
                · obtain ⟨m, rfl⟩ : ∃ i, m = i + 1 := ⟨m - 1, by omega⟩
                  have hld : decide ((m : Int) + 1 + 1 < 2) = false := decide_eq_false (by omega)
                  clear hl
                  have hc1 : (wr.alloc (.cells #[.int .u8 LO, .int .u8 HI] 70)).cell? ⟨b, o + k + 1, none⟩ = some (.int .u8 (T.getD (k + 1) 0)) := by rw [Nat.add_assoc]; exact hEC.out (k + 1) (by have := HKS.out; omega)
                  generalize T.getD (k + 1) 0 = x1 at *
                  by_cases q0 : x1 < (LO : Int)
                  · have d0 := decide_eq_true q0
                    go_wp2_with fail
                    go_big_quiet (fail)
                    go_wp2_with fail
                    go_meet
                    case rel => exact ⟨true, rfl, ⟨by simp⟩, ⟨hB1.out _⟩⟩
                  · have d0 := decide_eq_false q0
                    by_cases q1 : (HI : Int) < x1
                    · have d1 := decide_eq_true q1
                      go_wp2_with fail
                      go_big_quiet (fail)
                      go_wp2_with fail
                      go_meet
                      case rel => exact ⟨true, rfl, ⟨by simp⟩, ⟨hB1.out _⟩⟩
                    · have d1 := decide_eq_false q1
                      have fx : 2 ≤ m + 1 + 1 ∧ 128 ≤ x1 ∧ x1 < 192 := by have := facts.out; have := HSZ.out; omega
                      have FX := Hd.mk fx
                      clear fx
                      go_wp2_with fail
                      go_big_quiet (fail)
                      go_wp2_with fail
                      go_meet
                      case rel => exact ⟨false, rfl, ⟨fun _ => FX.out⟩, ⟨hB1.out _⟩⟩
            case rest =>
                obtain ⟨bb, rfl, hbb, hBc⟩ := hcut
                cases bb with
                | true =>
                  go_wp2_with fail
                  go_ret
                  exact ⟨⟨false, rfl, by simp⟩, hBc.out⟩
                | false =>
                  have hf := hbb.out rfl
                  obtain ⟨m, rfl⟩ : ∃ i, m = i + 1 := ⟨m - 1, by omega⟩
                  have HF := Hd.mk hf
                  clear hf hbb
                  have HZ : Hd (Utf8 (T.drop (k + 2)) → Utf8 T) := ⟨fun hu => hU.out.ok (by
                    have hs := HKS.out
                    have hf := HF.out; have hfa := facts.out; have hsz := HSZ.out
                    rw [drop_cons T k hkl, drop_cons T (k + 1) (by omega), EX.out]
                    exact .two (by omega) (by omega) hu)⟩
                  have HS2 : Hd (k + 2 + m = T.length) := ⟨by have := HKS.out; omega⟩
                  have HG2 : Hd (m < gk) := ⟨by have := HG.out; omega⟩
                  clear HF HKS HG hg hEC facts hU
                  cases m with
                  | zero =>
                    go_wp2_with fail
                    go_roundg gk
                    case measure => exact Nat.lt_succ_self _
                    case rel => exact ⟨k + 2, 0, _, rfl, HG2, ⟨⟨HS2.out, fun h => absurd h (by omega), HZ.out, hBc.out⟩⟩⟩
                  | succ m =>
                    go_wp2_with fail
                    go_roundg gk
                    case measure => exact Nat.lt_succ_self _
                    case rel => exact ⟨k + 2, m + 1, some ⟨b, o + (k + 2), none⟩, (by first | rfl | simp [Nat.add_assoc]), HG2, ⟨⟨HS2.out, fun _ => rfl, HZ.out, hBc.out⟩⟩⟩
        by_cases hs3 : SZ = 3
        · as_aux_lemma =>
            have hs := hs3
            subst hs
            go_upto_region 22 with fail
            go_cut [138] (fun v138 w' => ∃ bb : Bool, v138 = .bool bb ∧ Hd (bb = false → 3 ≤ m + 1 ∧ 128 ≤ T.getD (k + 1) 0 ∧ T.getD (k + 1) 0 < 192 ∧ 128 ≤ T.getD (k + 2) 0 ∧ T.getD (k + 2) 0 < 192) ∧ Hd (Below w.heap.size w w'))
            case first =>
              as_aux_lemma =>
                by_cases hl : m + 1 < 3
                · have hld : decide ((m : Int) + 1 < 3) = true := decide_eq_true (by omega)
                  go_wp2_with fail
                  go_big_quiet (fail)
                  go_wp2_with fail
                  go_meet
                  case rel => exact ⟨true, rfl, ⟨by simp⟩, ⟨hB1.out _⟩⟩
                · obtain ⟨m, rfl⟩ : ∃ i, m = i + 2 := ⟨m - 2, by omega⟩
                  have hld : decide ((m : Int) + 2 + 1 < 3) = false := decide_eq_false (by omega)
                  clear hl
                  have hc1 : (wr.alloc (.cells #[.int .u8 LO, .int .u8 HI] 70)).cell? ⟨b, o + k + 1, none⟩ = some (.int .u8 (T.getD (k + 1) 0)) := by rw [Nat.add_assoc]; exact hEC.out (k + 1) (by have := HKS.out; omega)
                  generalize T.getD (k + 1) 0 = x1 at *
                  have hc2 : (wr.alloc (.cells #[.int .u8 LO, .int .u8 HI] 70)).cell? ⟨b, o + k + 2, none⟩ = some (.int .u8 (T.getD (k + 2) 0)) := by rw [Nat.add_assoc]; exact hEC.out (k + 2) (by have := HKS.out; omega)
                  generalize T.getD (k + 2) 0 = x2 at *
                  by_cases q0 : x1 < (LO : Int)
                  · have d0 := decide_eq_true q0
                    go_wp2_with fail
                    go_big_quiet (fail)
                    go_wp2_with fail
                    go_meet
                    case rel => exact ⟨true, rfl, ⟨by simp⟩, ⟨hB1.out _⟩⟩
                  · have d0 := decide_eq_false q0
                    by_cases q1 : (HI : Int) < x1
                    · have d1 := decide_eq_true q1
                      go_wp2_with fail
                      go_big_quiet (fail)
                      go_wp2_with fail
                      go_meet
                      case rel => exact ⟨true, rfl, ⟨by simp⟩, ⟨hB1.out _⟩⟩
                    · have d1 := decide_eq_false q1
                      by_cases q2 : x2 < (128 : Int)
                      · have d2 := decide_eq_true q2
                        go_wp2_with fail
                        go_big_quiet (fail)
                        go_wp2_with fail
                        go_meet
                        case rel => exact ⟨true, rfl, ⟨by simp⟩, ⟨hB1.out _⟩⟩
                      · have d2 := decide_eq_false q2
                        by_cases q3 : (191 : Int) < x2
                        · have d3 := decide_eq_true q3
                          go_wp2_with fail
                          go_big_quiet (fail)
                          go_wp2_with fail
                          go_meet
                          case rel => exact ⟨true, rfl, ⟨by simp⟩, ⟨hB1.out _⟩⟩
                        · have d3 := decide_eq_false q3
                          have fx : 3 ≤ m + 2 + 1 ∧ 128 ≤ x1 ∧ x1 < 192 ∧ 128 ≤ x2 ∧ x2 < 192 := by have := facts.out; have := HSZ.out; omega
                          have FX := Hd.mk fx
                          clear fx
                          go_wp2_with fail
                          go_big_quiet (fail)
                          go_wp2_with fail
                          go_meet
                          case rel => exact ⟨false, rfl, ⟨fun _ => FX.out⟩, ⟨hB1.out _⟩⟩
            case rest =>
                obtain ⟨bb, rfl, hbb, hBc⟩ := hcut
                cases bb with
                | true =>
                  go_wp2_with fail
                  go_ret
                  exact ⟨⟨false, rfl, by simp⟩, hBc.out⟩
                | false =>
                  have hf := hbb.out rfl
                  obtain ⟨m, rfl⟩ : ∃ i, m = i + 2 := ⟨m - 2, by omega⟩
                  have HF := Hd.mk hf
                  clear hf hbb
                  have HZ : Hd (Utf8 (T.drop (k + 3)) → Utf8 T) := ⟨fun hu => hU.out.ok (by
                    have hs := HKS.out
                    have hf := HF.out; have hfa := facts.out; have hsz := HSZ.out
                    rw [drop_cons T k hkl, drop_cons T (k + 1) (by omega), drop_cons T (k + 2) (by omega), EX.out]
                    exact .three (by omega) (by omega) (by omega) hu)⟩
                  have HS2 : Hd (k + 3 + m = T.length) := ⟨by have := HKS.out; omega⟩
                  have HG2 : Hd (m < gk) := ⟨by have := HG.out; omega⟩
                  clear HF HKS HG hg hEC facts hU
                  cases m with
                  | zero =>
                    go_wp2_with fail
                    go_roundg gk
                    case measure => exact Nat.lt_succ_self _
                    case rel => exact ⟨k + 3, 0, _, rfl, HG2, ⟨⟨HS2.out, fun h => absurd h (by omega), HZ.out, hBc.out⟩⟩⟩
                  | succ m =>
                    go_wp2_with fail
                    go_roundg gk
                    case measure => exact Nat.lt_succ_self _
                    case rel => exact ⟨k + 3, m + 1, some ⟨b, o + (k + 3), none⟩, (by first | rfl | simp [Nat.add_assoc]), HG2, ⟨⟨HS2.out, fun _ => rfl, HZ.out, hBc.out⟩⟩⟩
        by_cases hs4 : SZ = 4
        · as_aux_lemma =>
            have hs := hs4
            subst hs
            go_upto_region 26 with fail
            go_cut [185] (fun v185 w' => ∃ bb : Bool, v185 = .bool bb ∧ Hd (bb = false → 4 ≤ m + 1 ∧ 128 ≤ T.getD (k + 1) 0 ∧ T.getD (k + 1) 0 < 192 ∧ 128 ≤ T.getD (k + 2) 0 ∧ T.getD (k + 2) 0 < 192 ∧ 128 ≤ T.getD (k + 3) 0 ∧ T.getD (k + 3) 0 < 192) ∧ Hd (Below w.heap.size w w'))
            case first =>
              as_aux_lemma =>
                by_cases hl : m + 1 < 4
                · have hld : decide ((m : Int) + 1 < 4) = true := decide_eq_true (by omega)
                  go_wp2_with fail
                  go_big_quiet (fail)
                  go_wp2_with fail
                  go_meet
                  case rel => exact ⟨true, rfl, ⟨by simp⟩, ⟨hB1.out _⟩⟩
                · obtain ⟨m, rfl⟩ : ∃ i, m = i + 3 := ⟨m - 3, by omega⟩
                  have hld : decide ((m : Int) + 3 + 1 < 4) = false := decide_eq_false (by omega)
                  clear hl
                  have hc1 : (wr.alloc (.cells #[.int .u8 LO, .int .u8 HI] 70)).cell? ⟨b, o + k + 1, none⟩ = some (.int .u8 (T.getD (k + 1) 0)) := by rw [Nat.add_assoc]; exact hEC.out (k + 1) (by have := HKS.out; omega)
                  generalize T.getD (k + 1) 0 = x1 at *
                  have hc2 : (wr.alloc (.cells #[.int .u8 LO, .int .u8 HI] 70)).cell? ⟨b, o + k + 2, none⟩ = some (.int .u8 (T.getD (k + 2) 0)) := by rw [Nat.add_assoc]; exact hEC.out (k + 2) (by have := HKS.out; omega)
                  generalize T.getD (k + 2) 0 = x2 at *
                  have hc3 : (wr.alloc (.cells #[.int .u8 LO, .int .u8 HI] 70)).cell? ⟨b, o + k + 3, none⟩ = some (.int .u8 (T.getD (k + 3) 0)) := by rw [Nat.add_assoc]; exact hEC.out (k + 3) (by have := HKS.out; omega)
                  generalize T.getD (k + 3) 0 = x3 at *
                  by_cases q0 : x1 < (LO : Int)
                  · have d0 := decide_eq_true q0
                    go_wp2_with fail
                    go_big_quiet (fail)
                    go_wp2_with fail
                    go_meet
                    case rel => exact ⟨true, rfl, ⟨by simp⟩, ⟨hB1.out _⟩⟩
                  · have d0 := decide_eq_false q0
                    by_cases q1 : (HI : Int) < x1
                    · have d1 := decide_eq_true q1
                      go_wp2_with fail
                      go_big_quiet (fail)
                      go_wp2_with fail
                      go_meet
                      case rel => exact ⟨true, rfl, ⟨by simp⟩, ⟨hB1.out _⟩⟩
                    · have d1 := decide_eq_false q1
                      by_cases q2 : x2 < (128 : Int)
                      · have d2 := decide_eq_true q2
                        go_wp2_with fail
                        go_big_quiet (fail)
                        go_wp2_with fail
                        go_meet
                        case rel => exact ⟨true, rfl, ⟨by simp⟩, ⟨hB1.out _⟩⟩
                      · have d2 := decide_eq_false q2
                        by_cases q3 : (191 : Int) < x2
                        · have d3 := decide_eq_true q3
                          go_wp2_with fail
                          go_big_quiet (fail)
                          go_wp2_with fail
                          go_meet
                          case rel => exact ⟨true, rfl, ⟨by simp⟩, ⟨hB1.out _⟩⟩
                        · have d3 := decide_eq_false q3
                          by_cases q4 : x3 < (128 : Int)
                          · have d4 := decide_eq_true q4
                            go_wp2_with fail
                            go_big_quiet (fail)
                            go_wp2_with fail
                            go_meet
                            case rel => exact ⟨true, rfl, ⟨by simp⟩, ⟨hB1.out _⟩⟩
                          · have d4 := decide_eq_false q4
                            by_cases q5 : (191 : Int) < x3
                            · have d5 := decide_eq_true q5
                              go_wp2_with fail
                              go_big_quiet (fail)
                              go_wp2_with fail
                              go_meet
                              case rel => exact ⟨true, rfl, ⟨by simp⟩, ⟨hB1.out _⟩⟩
                            · have d5 := decide_eq_false q5
                              have fx : 4 ≤ m + 3 + 1 ∧ 128 ≤ x1 ∧ x1 < 192 ∧ 128 ≤ x2 ∧ x2 < 192 ∧ 128 ≤ x3 ∧ x3 < 192 := by have := facts.out; have := HSZ.out; omega
                              have FX := Hd.mk fx
                              clear fx
                              go_wp2_with fail
                              go_big_quiet (fail)
                              go_wp2_with fail
                              go_meet
                              case rel => exact ⟨false, rfl, ⟨fun _ => FX.out⟩, ⟨hB1.out _⟩⟩
            case rest =>
                obtain ⟨bb, rfl, hbb, hBc⟩ := hcut
                cases bb with
                | true =>
                  go_wp2_with fail
                  go_ret
                  exact ⟨⟨false, rfl, by simp⟩, hBc.out⟩
                | false =>
                  have hf := hbb.out rfl
                  obtain ⟨m, rfl⟩ : ∃ i, m = i + 3 := ⟨m - 3, by omega⟩
                  have HF := Hd.mk hf
                  clear hf hbb
                  have HZ : Hd (Utf8 (T.drop (k + 4)) → Utf8 T) := ⟨fun hu => hU.out.ok (by
                    have hs := HKS.out
                    have hf := HF.out; have hfa := facts.out; have hsz := HSZ.out
                    rw [drop_cons T k hkl, drop_cons T (k + 1) (by omega), drop_cons T (k + 2) (by omega), drop_cons T (k + 3) (by omega), EX.out]
                    exact .four (by omega) (by omega) (by omega) (by omega) hu)⟩
                  have HS2 : Hd (k + 4 + m = T.length) := ⟨by have := HKS.out; omega⟩
                  have HG2 : Hd (m < gk) := ⟨by have := HG.out; omega⟩
                  clear HF HKS HG hg hEC facts hU
                  cases m with
                  | zero =>
                    go_wp2_with fail
                    go_roundg gk
                    case measure => exact Nat.lt_succ_self _
                    case rel => exact ⟨k + 4, 0, _, rfl, HG2, ⟨⟨HS2.out, fun h => absurd h (by omega), HZ.out, hBc.out⟩⟩⟩
                  | succ m =>
                    go_wp2_with fail
                    go_roundg gk
                    case measure => exact Nat.lt_succ_self _
                    case rel => exact ⟨k + 4, m + 1, some ⟨b, o + (k + 4), none⟩, (by first | rfl | simp [Nat.add_assoc]), HG2, ⟨⟨HS2.out, fun _ => rfl, HZ.out, hBc.out⟩⟩⟩
        have e2 : ((SZ : Int) == 2) = false := by simp; omega
        have e3 : ((SZ : Int) == 3) = false := by simp; omega
        have e4 : ((SZ : Int) == 4) = false := by simp; omega
        have hs8 : SZ < 8 := by have := HSZ.out; omega
        clear hs hs3 hs4
        go_wp2_with fail
        go_ret
        have := hB1.out 0
        exact ⟨⟨false, rfl, by simp⟩, this⟩
    · have hm0 : m = 0 := by omega
      subst hm0
      go_wp2_with fail
      go_ret
      have hs := hU.out.sum
      exact ⟨⟨true, rfl, fun _ => hU.out.ok (by rw [List.drop_of_length_le (by omega)]; exact .nil)⟩, hU.out.mem⟩
end Go.Proofs.YteonakpgenkhkaaDoor
