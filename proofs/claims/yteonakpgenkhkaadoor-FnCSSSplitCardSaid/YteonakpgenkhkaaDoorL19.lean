import Derived.Test.YteonakpgenkhkaaDoorL18
import Derived.Laws.AppendOwn
import Derived.IntWalk
import Derived.LaidEql
namespace Go.Proofs.YteonakpgenkhkaaDoor
open Go.RowKit
set_option linter.unusedVariables false
set_option linter.unusedSimpArgs false
/-- The bytes of a row of the call's own. -/
theorem own_bytes {w : World} {B0 : Nat} {v : Value} {S : List Int} {n : Nat} (h : w.ownsRow B0 5 1 v n (S.map (Value.int .u8))) (hl : S.length ≤ 140737488355328) :
    n = S.length ∧ ∃ A c, v = .slice A S.length c ∧ Bytes w A S ∧ S.length ≤ c ∧ (∀ ad, A = some ad → B0 ≤ ad.block ∧ ∃ cs f, w.heap[ad.block]? = some (.cells cs 5 f)) := by
  obtain ⟨hx, h⟩ := h
  have hn : n = S.length := by simpa using hx.symm
  subst hn
  refine ⟨rfl, ?_⟩
  rcases h with ⟨rfl, h0⟩ | ⟨g, cap, cur, rfl, hg, hb, hc, hm, hs, ht⟩
  · rw [h0]
    refine ⟨none, 0, rfl, ⟨hl, fun h => by omega⟩, by omega, fun ad e => by cases e⟩
  · refine ⟨_, _, rfl, ⟨hl, fun h0 => ⟨g, 0, rfl, fun j hj => ?_⟩⟩, hc, fun ad e => by cases e; exact ⟨hg, _, _, hb⟩⟩
    rw [cell_of_block hb, Nat.zero_add, ← Array.getElem?_toList]
    have e : cur.toList[j]? = (cur.toList.take (S.length * 1))[j]? := by rw [List.getElem?_take, if_pos (by omega)]
    rw [e, ht]
    exact bytes_at hj
theorem take_bytes (S : List Int) (k : Nat) (h : k < S.length) : (S.take (k + 1)).map (Value.int .u8) = (S.take k).map (Value.int .u8) ++ [.int .u8 (S.getD k 0)] := by
  rw [List.take_succ_eq_append_getElem h, List.map_append, List.getD_eq_getElem?_getD, List.getElem?_eq_getElem h]; rfl
theorem own_drewN {w : World} {B0 : Nat} {e : TypeId} {z : Nat} {v : Value} {n : Nat} {xs : List Value} (h : w.ownsRow B0 e z v n xs) (m : Nat) : (w.drewN m).ownsRow B0 e z v n xs := h
theorem one_new {w : World} {g j : Nat} {y u : Value} {t : TypeId} (hg : w.heap.size = g) (hu : [y][j]? = some u) : (w.alloc (.cells #[y] t)).cell? ((⟨g, 0, none⟩ : Addr).add j) = some u := by
  subst hg
  obtain rfl : j = 0 := by
    rcases j with _ | j
    · rfl
    · simp at hu
  exact (cell_of_block (heap_new _ _) 0).trans (by simpa using hu)
/-- No backslash. -/
def plain92 (S : List Int) : Bool := S.all fun x => !((bstr [x]).toList == (bstr [92]).toList)
theorem plain92_at {S : List Int} (h : plain92 S = true) (k : Nat) (hk : k < S.length) : ((bstr [S.getD k 0]).toList == (bstr [92]).toList) = false := by
  unfold plain92 at h
  rw [List.all_eq_true] at h
  have := h (S.getD k 0) (by rw [List.getD_eq_getElem?_getD, List.getElem?_eq_getElem hk]; exact List.getElem_mem hk)
  simpa using this
theorem _root_.Go.RowKit.Below.frz' {B : Nat} {a w : World} (h : Below B a w) (w' : World) (h1 : w'.os = w.os) (h2 : w'.tape = w.tape) (h3 : w'.output = w.output) (h4 : w'.heap = w.heap) : Below B a w' :=
  ⟨h1.trans h.os, h2.trans h.tape, h3.trans h.output, by rw [h4]; exact h.size, fun k hk => by rw [h4]; exact h.block k hk⟩
def StripPost (S : List Int) (w : World) (e : Ending) (w' : World) : Prop := (∃ A c, e = .returned (.slice A S.length c) ∧ Bytes w' A S) ∧ Below w.heap.size w w'
set_option maxHeartbeats 4000000 in
set_option maxRecDepth 100000 in
theorem Strip_calls {w : World} {A G : Option Addr} {S : List Int} {cp cp' : Nat} (h : Bytes w A S) (hA : ∀ ad, A = some ad → ad.block < w.heap.size) (hcp : S.length ≤ cp) (hG : Bytes w G [92]) (hGb : ∀ ad, G = some ad → ad.block < w.heap.size) (hp : Hd (plain92 S = true)) :
    Calls Tryd.prog 86 #[.slice A S.length cp, .slice G 1 cp', .slice none 0 0] w (StripPost S w) := by
  have hlen := h.len
  obtain ⟨i0, hi, hz0, hz1, hz2⟩ := info_parts Tryd.info5
  go_enter Tryd.func86, Tryd.ntmps86
  go_wp2
  go_loopg [7, 8] S.length (fun gk v7 v8 w' => ∃ k : Nat, v8 = .int .i64 k ∧ Hd (k + gk = S.length) ∧ Hd (w'.ownsRow w.heap.size 5 1 v7 k ((S.take k).map (Value.int .u8))) ∧ Hd (Below w.heap.size w w'))
  case atStart => exact ⟨0, rfl, ⟨by omega⟩, ⟨by simpa using World.ownsRow_nil w w.heap.size 5 1⟩, ⟨Below.refl _ _⟩⟩
  case round =>
    obtain ⟨k, rfl, HK, HO, HB⟩ := hrel
    cases gk with
    | zero =>
      have hk : k = S.length := by have := HK.out; omega
      subst hk
      go_wp2
      go_ret
      have ho := HO.out
      rw [List.take_of_length_le (Nat.le_refl _)] at ho
      obtain ⟨_, A', c', rfl, hB, _⟩ := own_bytes ho hlen
      exact ⟨⟨A', c', rfl, hB⟩, HB.out⟩
    | succ gk =>
      have hlt : k < S.length := by have := HK.out; omega
      have hkl : (k : Int) < (S.length : Int) := by omega
      have hkc : k + 1 ≤ cp := by omega
      have hsz := HB.out.size
      have hb := h.of_block (w' := wr) fun ad e hl => HB.out.block _ (hA ad e)
      have hg := hG.of_block (w' := wr) fun ad e hl => HB.out.block _ (hGb ad e)
      obtain ⟨b, off, rfl, hc⟩ := hb.cells (by omega)
      have c0 := hc k hlt
      have hx := Hd.mk (plain92_at hp.out k hlt)
      have ht := Hd.mk (take_bytes S k hlt)
      clear hb hc
      generalize S.getD k 0 = x at c0 hx ht
      have C1 : ∀ n, (convert 22 9 (.slice (some ⟨b, off + k, none⟩) 1 (cp - k))).run Tryd.prog (wr.drewN n) = .ok (.string (bstr [x])) (wr.drewN n) := fun n =>
        conv_bytes (T := [x]) ⟨by simp, fun _ => ⟨b, off + k, rfl, fun j hj => by
          obtain rfl : j = 0 := by simp at hj; omega
          exact c0⟩⟩
      have C2 : ∀ n, (convert 22 9 (.slice G 1 cp')).run Tryd.prog (wr.drewN n) = .ok (.string (bstr [92])) (wr.drewN n) := fun n => conv_bytes (T := [92]) (hg.of_block fun _ _ _ => rfl)
      have hx1 := hx.out
      have hw1 : IntKind.i64.wrap ((k : Int) + 1) = (k : Int) + 1 := IntWalk.i64_in _ (by omega)
      have hw2 : decide ((k : Int) + 1 ≤ (S.length : Int)) = true := decide_eq_true (by omega)
      have hw3 : ((k : Int) + 1).toNat = k + 1 := by omega
      have hw4 : k + 1 - k = 1 := by omega
      have hw5 : (0 : Int) ≤ (k : Int) + 1 := by omega
      have hw6 : (k : Int) ≤ (k : Int) + 1 := by omega
      have hw7 : (k : Int) + 1 ≤ (cp : Int) := by omega
      go_wp2
      go_quiet (fail)
      clear hw1 hw2 hw3 hw4 hw5 hw6 hw7 C1 C2
      go_wp2_with (at_builtin; refine wpList_append_own _ rfl _ _ 22 rfl w.heap.size 5 i0 (.int .u8 0) 1 1 Tryd.underlying22 hi hz0 hz1 hz2 rfl (by decide) _ _ _ rfl ((own_drewN HO.out nq).alloc _) ⟨wr.heap.size, 0, none⟩ 1 1 [.int .u8 x] rfl rfl ?c1 ?c2 ?c3 ?c4 ?c5 ?_)
      case c1 => intro j u hu; exact one_new (by simp) hu
      case c2 => intro u hu; simp only [List.mem_singleton] at hu; subst hu; rfl
      case c3 => unfold maxLen; omega
      case c4 => omega
      case c5 => simp; omega
      intro v' w1 hown1 hgrow _
      have HO1 := Hd.mk hown1
      have HB1 : Hd (Below w.heap.size w w1) := ⟨Below.grown ((HB.out.frz' (wr.drewN nq) rfl rfl rfl rfl).alloc (by simpa using hsz) _) hgrow (by simp; omega) fun g hg => (HO.out.lt g hg).1⟩
      clear hown1 hgrow
      go_wp2
      go_roundg gk
      case measure => exact Nat.lt_succ_self _
      case rel => exact ⟨k + 1, by go_num, ⟨by have := HK.out; omega⟩, ⟨by rw [ht.out, List.map_take]; exact HO1.out⟩, HB1⟩
theorem Lx.below {w w' : World} {l z b : Nat} {B : List Int} {ET : TypeId} {EA : Addr} {p s : Int} (h : Lx w l z b B ET EA p s) (k : Below w.heap.size w w') : Lx w' l z b B ET EA p s :=
  h.fr ⟨k.os, k.tape, k.output, k.size, fun i hi _ => k.block i hi⟩ fun _ hz => (k.block _ (lt_of_heap hz)).trans hz
theorem Fr.belowR {z : Nat} {a w w' : World} (h : Fr z a w) (k : Below w.heap.size w w') : Fr z a w' := h.trans ⟨k.os, k.tape, k.output, k.size, fun i hi _ => k.block i hi⟩
theorem Lx.text {w : World} {l z b : Nat} {B : List Int} {ET : TypeId} {EA : Addr} {p s : Int} (h : Lx w l z b B ET EA p s) : Bytes w (some ⟨b, 0, none⟩) B := ⟨h.len, fun _ => ⟨b, 0, rfl, fun j hj => by rw [Nat.zero_add]; exact h.bytes j hj⟩⟩
def strip (B : List Int) (s p : Int) : Option (List Int) := (subL B s p).bind fun S => if plain92 S = true then some S else none
theorem slv_of {b : Nat} {lo hi : Int} (h : lo < hi) (h0 : 0 ≤ lo) : slv b lo hi = .slice (some ⟨b, lo.toNat, none⟩) (hi.toNat - lo.toNat) (hi.toNat - lo.toNat) := by
  unfold slv
  rw [if_neg (by omega)]
theorem Strip86_calls {w : World} {l z b : Nat} {B : List Int} {ET : TypeId} {EA : Addr} {p s : Int} (h : Lx w l z b B ET EA p s) {g : Nat} (hG : Bytes w (some ⟨g, 0, none⟩) [92]) (S : List Int) (hS : Hd (strip B s p = some S)) :
    Calls Tryd.prog 86 #[slv b s p, .slice (some ⟨g, 0, none⟩) 1 1, .slice none 0 0] w fun e w' => (∃ A c, e = .returned (.slice A S.length c) ∧ Bytes w' A S) ∧ Lx w' l z b B ET EA p s ∧ Fr z w w' := by
  unfold strip at hS
  obtain ⟨S', h1, h2⟩ := hS.bind
  have h2 := h2.out
  split at h2
  · rename_i hp
    obtain rfl := Option.some.inj h2
    obtain ⟨hb, rfl⟩ := subL_of h1
    have hl := sub_length hb
    have hB := sub_bytes h.len hb (b := b) (off := 0) (w := w) fun j hj => by rw [Nat.zero_add]; exact h.bytes j hj
    rw [slv_of hb.2.1 hb.1]
    rw [Nat.zero_add] at hB
    generalize (B.drop s.toNat).take (p.toNat - s.toNat) = S at hl hB hp
    rw [← hl]
    refine (Strip_calls hB (fun ad e => by cases e; exact h.bl) (Nat.le_refl _) hG (fun ad e => by cases e; exact hG.lt (by decide)) ⟨hp⟩).mono ?_
    rintro e w' ⟨he, hw⟩
    exact ⟨he, h.below hw, (Fr.refl z w).belowR hw⟩
  · cases h2
theorem Tryd.info80 : (Tryd.prog.info? 80).map (fun i => i.comparable) = some true := by kernel_rfl
theorem Tryd.info95 : (Tryd.prog.info? 95).map (fun i => i.comparable) = some true := by kernel_rfl
theorem eof_eql (EA : Addr) (w : World) : (binOp .eql 53 (.iface 80 (.pointer (some EA))) (.iface 80 (.pointer (some EA)))).run Tryd.prog w = .ok (.bool true) w := by
  obtain ⟨i, hi, hc⟩ := Option.map_eq_some_iff.mp Tryd.info80
  obtain ⟨j, hj, _⟩ := Option.map_eq_some_iff.mp Tryd.info95
  exact run_eql_iface_ptr_same (w := w) EA Tryd.underlying53 Tryd.underlying80 hi hc hj
theorem eof_neq (EA : Addr) (w : World) : (binOp .neq 53 (.iface 80 (.pointer (some EA))) (.iface 80 (.pointer (some EA)))).run Tryd.prog w = .ok (.bool false) w := by
  obtain ⟨i, hi, hc⟩ := Option.map_eq_some_iff.mp Tryd.info80
  obtain ⟨j, hj, _⟩ := Option.map_eq_some_iff.mp Tryd.info95
  simp only [binOp]
  simp [Op.equal, Op.maxDepth, run_equalIn_iface_ptr_same w 9998 EA Tryd.underlying53 Tryd.underlying80 hi hc hj]
theorem nil_neq (EA : Addr) (w : World) : (binOp .neq 53 .nilIface (.iface 80 (.pointer (some EA)))).run Tryd.prog w = .ok (.bool true) w := by
  have h : ∀ d : Nat, (Op.equalIn (d + 1) 53 .nilIface (.iface 80 (.pointer (some EA)))).run Tryd.prog w = .ok false w := fun d => by simp [Op.equalIn, run_underlying Tryd.underlying53]
  simp only [binOp]
  simp [Op.equal, Op.maxDepth, h 9999]
theorem nil_eql (EA : Addr) (w : World) : (binOp .eql 53 .nilIface (.iface 80 (.pointer (some EA)))).run Tryd.prog w = .ok (.bool false) w := run_eql_iface_nil_left (w := w) 80 _ Tryd.underlying53
theorem Fold85_calls {w : World} {l z b : Nat} {B : List Int} {ET : TypeId} {EA : Addr} {p s : Int} (h : Lx w l z b B ET EA p s) {A A' : Option Addr} {cp cp' : Nat} {S U : List Int} (hS : Bytes w A S) (hU : Bytes w A' U) :
    Calls Tryd.prog 85 #[.slice A S.length cp, .slice A' U.length cp'] w fun e w' => e = .returned (.bool (foldEq2 S U)) ∧ Lx w' l z b B ET EA p s ∧ Fr z w w' :=
  (EqualFold2_calls hS hU).mono fun e w' ⟨he, hw⟩ => by subst hw; exact ⟨he, h, Fr.refl _ _⟩
theorem Bytes.alloc {w : World} {A : Option Addr} {T : List Int} (h : Bytes w A T) (o : Obj) : Bytes (w.alloc o) A T := h.of_block fun _ _ hl => Below.heap_alloc _ _ _ hl
end Go.Proofs.YteonakpgenkhkaaDoor
