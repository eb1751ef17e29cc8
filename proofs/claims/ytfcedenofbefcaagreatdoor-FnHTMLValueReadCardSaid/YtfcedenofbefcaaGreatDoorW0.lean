import Derived.Test.YtfcedenofbefcaaGreatDoorQ8
import Derived.Laws.AppendOwnNone
import Derived.Deep.RegionLaw
namespace Go.Proofs.YtfcedenofbefcaaGreatDoor
open Go.RowKit
set_option linter.unusedVariables false
set_option linter.unusedSimpArgs false
/-- The source of an append. -/
def Src (w : World) (v : Value) (m : Nat) (news : List Value) : Prop :=
  (v = .slice none 0 0 ∧ m = 0 ∧ news = []) ∨ ∃ g o c, v = .slice (some ⟨g, o, none⟩) m c ∧ ∀ j u, news[j]? = some u → w.cell? ⟨g, o + j, none⟩ = some u
theorem addr_add (g o j : Nat) : (⟨g, o, none⟩ : Addr).add j = ⟨g, o + j, none⟩ := by unfold Addr.add; split <;> simp_all
theorem Src.keep {w w' : World} {v : Value} {m : Nat} {news : List Value} (h : Src w v m news) (k : ∀ g, g < w.heap.size → v.ownBlock = some g → w'.heap[g]? = w.heap[g]?) : Src w' v m news := by
  rcases h with h | ⟨g, o, c, rfl, hc⟩
  · exact .inl h
  · exact .inr ⟨g, o, c, rfl, fun j u hu => (World.cell?_of_block (w := w) (k g (World.block_lt_of_cell? _ _ (hc j u hu)) rfl)).trans (hc j u hu)⟩
def Kp (w W : World) : Prop := Below w.heap.size w W
theorem kp_refl (w : World) : Kp w w := Below.refl _ _
theorem kp_alloc {w W : World} (h : Kp w W) (o : Obj) : Kp w (W.alloc o) := Below.alloc h (Below.size h) o
theorem kp_drew {w W : World} (h : Kp w W) : Kp w W.drew := Below.drew h
theorem kp_grown {w W W' : World} {row : Option Nat} (h : Kp w W) (hg : W.grownBy W' row) (hr : ∀ k, row = some k → w.heap.size ≤ k) : Kp w W' := Below.grown h hg (Below.size h) hr
theorem Src.kp {w w' : World} {v : Value} {m : Nat} {news : List Value} (h : Src w v m news) (k : Kp w w') : Src w' v m news := h.keep fun g hg _ => Below.block k g hg
theorem src_new {w : World} {g : Nat} {y : Array Value} {t : TypeId} {news : List Value} (hg : w.heap.size = g) (hy : y.toList = news) : Src (w.alloc (.cells y t)) (.slice (some ⟨g, 0, none⟩) 1 1) 1 news :=
  .inr ⟨g, 0, 1, rfl, fun j u hu => by subst hy; have := six_new (w := w) (t := t) hg hu; rwa [addr_add] at this⟩
theorem Src.alloc {w : World} {v : Value} {m : Nat} {news : List Value} (h : Src w v m news) (o : Obj) : Src (w.alloc o) v m news := h.keep fun g hg _ => Below.heap_alloc _ _ _ hg
theorem Src.drew {w : World} {v : Value} {m : Nat} {news : List Value} (h : Src w v m news) : Src w.drew v m news := h.keep fun g hg _ => rfl
theorem own_made {w : World} {base g : Nat} (hg : w.heap.size = g) (hb : base ≤ g) : (w.alloc (.cells #[] 36)).ownsRow base 36 6 (.slice (some ⟨g, 0, none⟩) 0 0) 0 [] := by
  subst hg
  exact World.ownsRow_made (e := 36) (size := 6) w #[] 0 hb (by unfold maxLen; omega) rfl
theorem own_drew {w : World} {base t z : Nat} {v : Value} {n : Nat} {xs : List Value} (h : w.ownsRow base t z v n xs) : w.drew.ownsRow base t z v n xs := h
theorem step_app {ops : Array Oper} {o : Oper} {a : Act} {w : World} {K : Act → World → Prop} {Q : Exit → Act → World → Prop} {E : Prop} (hg : o.guard = none) (s x : Operand)
    (hop : o.op = Op.call { callee := Callee.builtin Builtin.append, args := #[s, x], argTypes := #[26, 26] }) (base n m : Nat) (xs news : List Value) (v vx : Value) (hs : a.eval s = v) (hx : a.eval x = vx)
    (hown : w.ownsRow base 36 6 v n xs) (hsrc : Src w vx m news) (hl : news.length = m * 6) (h1 : ∀ u ∈ news, u.oneCell' = true) (hb : n + m ≤ 1000000000) (hbase : base ≤ w.heap.size)
    (hK : ∀ v' w', w'.ownsRow base 36 6 v' (n + m) (xs ++ news) → w.grownBy w' v.ownBlock → K (a.put o.dst v') w') : if Region.wanted o (yielded ops a.tmps) = true then Oper.wp Tryz.prog o a w K Q else E := by
  have hw : Region.wanted o (yielded ops a.tmps) = true := by simp [Region.wanted, hg]
  rw [if_pos hw]
  obtain ⟨i0, hi, hz0, hz1, hz2⟩ := info_parts Tryz.info36
  rcases hsrc with ⟨rfl, rfl, rfl⟩ | ⟨g, off, c, rfl, hc⟩
  · have hrun := run_append_owned_none (P := Tryz.prog) (w := w) base 26 o.type 36 i0 6 Tryz.underlying26s hi v n xs hown
    unfold Oper.wp
    simp [execOp, hop, resolve, invoke, builtin, hs, hx, hrun, Result.andThen]
    exact hK v w (by simpa using hown) ⟨rfl, rfl, rfl, Nat.le_refl _, fun _ _ _ => rfl⟩
  · obtain ⟨v', w', hrun, ho, hgr, _⟩ := run_append_own (P := Tryz.prog) w base 26 o.type 36 i0 _ 6 128 Tryz.underlying26s hi hz0 hz1 hz2 rfl (by decide) v n xs hown ⟨g, off, none⟩ m c news hl (fun j u hu => by rw [addr_add]; exact hc j u hu) h1 (by unfold maxLen; omega) (by omega) hbase
    unfold Oper.wp
    simp [execOp, hop, resolve, invoke, builtin, hs, hx, hrun, Result.andThen]
    exact hK v' w' ho hgr
theorem Pcs.src {w : World} {lo base : Nat} {v : Value} {P : List Pc} (h : Pcs w lo base v P) : Src w v P.length (P.flatMap Pc.cells) := by
  obtain ⟨hx, h⟩ := h.own
  rcases h with ⟨rfl, h0⟩ | ⟨g, cap, cur, rfl, hg, hb, hc, hm, hs, ht⟩
  · obtain rfl := List.eq_nil_of_length_eq_zero h0
    exact .inl ⟨rfl, rfl, rfl⟩
  · refine .inr ⟨g, 0, cap, rfl, fun j u hu => ?_⟩
    rw [Nat.zero_add, cell_of_block hb, ← Array.getElem?_toList]
    have hj : j < P.length * 6 := by
      rw [← hx]
      exact (List.getElem?_eq_some_iff.mp hu).1
    have e : cur.toList[j]? = (cur.toList.take (P.length * 6))[j]? := by rw [List.getElem?_take, if_pos hj]
    rw [e, ht]
    exact hu
theorem cells_len (P : List Pc) : (P.flatMap Pc.cells).length = P.length * 6 := by
  induction P with
  | nil => rfl
  | cons x P ih => rw [List.flatMap_cons, List.length_append, ih]; simp [Pc.cells]; omega
theorem pc_one (x : Pc) : ∀ u ∈ x.cells, u.oneCell' = true := by
  intro u hu
  simp only [Pc.cells, List.mem_cons, List.mem_nil_iff, or_false] at hu
  rcases hu with rfl | rfl | rfl | rfl | rfl | rfl <;> rfl
theorem cells_one (P : List Pc) : ∀ u ∈ P.flatMap Pc.cells, u.oneCell' = true := by
  intro u hu
  obtain ⟨x, _, hx⟩ := List.mem_flatMap.mp hu
  exact pc_one x u hx
theorem own_bytes {w : World} {B0 : Nat} {v : Value} {S : List Int} {n : Nat} (h : w.ownsRow B0 5 1 v n (S.map (Value.int .u8))) (hl : S.length ≤ 140737488355328) :
    n = S.length ∧ ∃ A c, v = .slice A S.length c ∧ Bytes w A S ∧ S.length ≤ c ∧ (∀ ad, A = some ad → B0 ≤ ad.block ∧ ∃ cs f, w.heap[ad.block]? = some (.cells cs 5 f)) ∧ (A = none → c = 0) := by
  obtain ⟨hx, h⟩ := h
  have hn : n = S.length := by simpa using hx.symm
  subst hn
  refine ⟨rfl, ?_⟩
  rcases h with ⟨rfl, h0⟩ | ⟨g, cap, cur, rfl, hg, hb, hc, hm, hs, ht⟩
  · rw [h0]
    refine ⟨none, 0, rfl, ⟨hl, fun h => by omega⟩, by omega, (fun ad e => by cases e), fun _ => rfl⟩
  · refine ⟨_, _, rfl, ⟨hl, fun h0 => ⟨g, 0, rfl, fun j hj => ?_⟩⟩, hc, (fun ad e => by cases e; exact ⟨hg, _, _, hb⟩), fun e => by cases e⟩
    rw [cell_of_block hb, Nat.zero_add, ← Array.getElem?_toList]
    have e : cur.toList[j]? = (cur.toList.take (S.length * 1))[j]? := by rw [List.getElem?_take, if_pos (by omega)]
    rw [e, ht]
    exact bytes_at hj
/-- An address below lo, or in a block from b on. -/
def Hi (lo b : Nat) (A : Option Addr) (T : List Int) : Prop := 0 < T.length → ∀ ad, A = some ad → ad.block < lo ∨ b ≤ ad.block
theorem Hi.low {lo b : Nat} {A : Option Addr} {T : List Int} (h : Lo lo A T) : Hi lo b A T := fun h0 ad e => .inl (h h0 ad e)
theorem Hi.mono {lo b b' : Nat} {A : Option Addr} {T : List Int} (h : Hi lo b A T) (hb : b' ≤ b) : Hi lo b' A T := fun h0 ad e => (h h0 ad e).imp id (Nat.le_trans hb)
theorem hi_of {lo : Nat} {w W : World} {A : Option Addr} {T : List Int} (k : Kp w W) (h : ∀ ad, A = some ad → W.heap.size ≤ ad.block) : Hi lo w.heap.size A T := fun _ ad e => .inr (Nat.le_trans (Below.size k) (h ad e))
def His (lo b : Nat) (P : List Pc) : Prop := ∀ x ∈ P, Hi lo b x.A x.D ∧ Hi lo b x.A2 x.T ∧ Hi lo b x.A4 x.V
theorem hi_none (lo b : Nat) (T : List Int) : Hi lo b none T := fun _ ad e => by cases e
theorem His.one {lo b : Nat} {x : Pc} (h1 : Hi lo b x.A x.D) (h2 : Hi lo b x.A2 x.T) (h3 : Hi lo b x.A4 x.V) : His lo b [x] := fun y hy => by
  obtain rfl := List.mem_singleton.mp hy
  exact ⟨h1, h2, h3⟩
theorem His.add {lo b : Nat} {P P' : List Pc} (h : His lo b P) (h' : His lo b P') : His lo b (P ++ P') := fun y hy => (List.mem_append.mp hy).elim (h y) (h' y)
/-- The parts of a text, joined. -/
abbrev Part := Option Addr × List Int × Nat
def Part.val (x : Part) : Value := .slice x.1 x.2.1.length x.2.2
def JoinPost (S : List Int) (w : World) (e : Ending) (w' : World) : Prop := (∃ A c, e = .returned (.slice A S.length c) ∧ Slc w' A S c ∧ (∀ lo, Seg w' lo A S c) ∧ ∀ ad, A = some ad → w.heap.size ≤ ad.block) ∧ Below w.heap.size w w'
theorem own_drewN' {w : World} {B0 e z : Nat} {v : Value} {n : Nat} {xs : List Value} (h : w.ownsRow B0 e z v n xs) (m : Nat) : (w.drewN m).ownsRow B0 e z v n xs := h
theorem flat_take (PL : List Part) (k : Nat) (x : Part) (h : PL[k]? = some x) : (PL.take (k + 1)).flatMap (·.2.1) = (PL.take k).flatMap (·.2.1) ++ x.2.1 := by
  obtain ⟨hk, e⟩ := List.getElem?_eq_some_iff.mp h
  rw [List.take_succ_eq_append_getElem hk, List.flatMap_append, e]
  simp
theorem flat_len_le (PL : List Part) (k : Nat) : ((PL.take k).flatMap (·.2.1)).length ≤ (PL.flatMap (·.2.1)).length := by
  conv => rhs; rw [← List.take_append_drop k PL, List.flatMap_append, List.length_append]
  omega
set_option maxHeartbeats 4000000 in
set_option maxRecDepth 100000 in
theorem join5_calls {w : World} {gp : Nat} {PL : List Part} {f : Nat × Nat} (hp : w.heap[gp]? = some (.cells (PL.map Part.val).toArray 25 f)) (hPL : PL.length ≤ 1000) (hd : ∀ x ∈ PL, Slc w x.1 x.2.1 x.2.2) (hlen : (PL.flatMap (·.2.1)).length ≤ 1000000) :
    Calls Tryz.prog 49 #[.slice (some ⟨gp, 0, none⟩) PL.length PL.length] w (JoinPost (PL.flatMap (·.2.1)) w) := by
  obtain ⟨i0, hi, hz0, hz1, hz2⟩ := info_parts Tryz.info5
  have HP := Hd.mk hp
  have hgl := lt_of_heap hp
  have HD := Hd.mk hd
  have HI := Hd.mk (And.intro hi (And.intro hz0 (And.intro hz1 hz2)))
  clear hp hd hi hz0 hz1 hz2
  go_enter Tryz.func49, Tryz.ntmps49
  go_wp2
  go_loopg [3, 9] PL.length (fun gk v3 v9 w' => ∃ k : Nat, v9 = .int .i64 k ∧ Hd (k + gk = PL.length) ∧ Hd (w'.ownsRow w.heap.size 5 1 v3 ((PL.take k).flatMap (·.2.1)).length (((PL.take k).flatMap (·.2.1)).map (Value.int .u8))) ∧ Hd (Below w.heap.size w w'))
  case atStart => exact ⟨0, rfl, ⟨by omega⟩, ⟨World.ownsRow_made (e := 5) (size := 1) w #[] 0 (Nat.le_refl _) (by unfold maxLen; omega) rfl⟩, ⟨(Below.refl _ _).alloc (Nat.le_refl _) _⟩⟩
  case round =>
    obtain ⟨k, rfl, HK, HO, HB⟩ := hrel
    cases gk with
    | zero =>
      have hk : k = PL.length := by have := HK.out; omega
      subst hk
      have ho := HO.out
      rw [List.take_of_length_le (Nat.le_refl _)] at ho
      have HQ := Hd.mk (own_bytes ho (by omega))
      clear ho
      go_wp2
      go_ret
      obtain ⟨_, A', c', rfl, hB, hc, hA, hN⟩ := HQ.out
      exact ⟨⟨A', c', rfl, ⟨hB, hc, hN⟩, fun lo => ⟨hB, hc, fun _ ad e => by obtain ⟨_, cs, f, hh⟩ := hA ad e; exact .inr ⟨cs, f, hh⟩⟩, fun ad e => (hA ad e).1⟩, HB.out⟩
    | succ gk =>
      have hlt : k < PL.length := by have := HK.out; omega
      have hkl : (k : Int) < (PL.length : Int) := by omega
      have hkb : k < 1000 := by omega
      obtain ⟨x, hx⟩ : ∃ x, PL[k]? = some x := ⟨_, List.getElem?_eq_getElem hlt⟩
      have c0 : wr.cell? ⟨gp, k, none⟩ = some x.val := by
        rw [cell_of_block ((HB.out.block _ hgl).trans HP.out)]
        simp [hx]
      have hSx := HD.out x (List.mem_of_getElem? hx)
      have hBx := hSx.b
      have hNx : x.1 = none → x.2.1 = [] ∧ x.2.2 = 0 := fun e => ⟨List.eq_nil_of_length_eq_zero (by have := hSx.k; have := hSx.z e; omega), hSx.z e⟩
      clear hSx
      have hBx' := hBx.below' HB.out
      have ht := Hd.mk (flat_take PL k x hx)
      have hle : ((PL.take k).flatMap (·.2.1)).length + x.2.1.length ≤ 1000000 := by
        have := flat_len_le PL (k + 1)
        rw [ht.out, List.length_append] at this
        omega
      have hsz := HB.out.size
      obtain ⟨hi, hz0, hz1, hz2⟩ := HI.out
      generalize hS : (PL.take k).flatMap (·.2.1) = S at HO hle ht
      have HS := Hd.mk hS
      obtain ⟨xA, xD, xc⟩ := x
      unfold Part.val at c0
      dsimp only at c0 hBx hBx' hNx ht hle
      have HX := Hd.mk hx
      clear hS hx hBx
      cases xA with
      | none =>
        obtain ⟨rfl, rfl⟩ := hNx rfl
        clear hNx hBx' hle
        go_wp2_with (at_builtin; refine wpList_append_own_none rfl _ _ 25 rfl w.heap.size 5 i0 1 Tryz.underlying25 hi _ S.length (S.map (Value.int .u8)) rfl HO.out rfl ?_)
        go_roundg gk
        case measure => exact Nat.lt_succ_self _
        case rel => exact ⟨k + 1, by go_num, ⟨by have := HK.out; omega⟩, ⟨by rw [ht.out, List.append_nil]; exact HO.out⟩, HB⟩
      | some ad =>
        obtain ⟨b, off, hbo⟩ : ∃ b off, 0 < xD.length → (ad = ⟨b, off, none⟩ ∧ ∀ j, j < xD.length → wr.cell? ⟨b, off + j, none⟩ = some (.int .u8 (xD.getD j 0))) := by
          by_cases h0 : 0 < xD.length
          · obtain ⟨b, o, e, hc⟩ := hBx'.cells h0
            exact ⟨b, o, fun _ => ⟨by injection e, hc⟩⟩
          · exact ⟨0, 0, fun h => absurd h h0⟩
        have HC : Hd (∀ j u, (xD.map (Value.int .u8))[j]? = some u → wr.cell? (ad.add j) = some u) := ⟨fun j u hu => by
          have hj : j < xD.length := by
            rcases Nat.lt_or_ge j xD.length with h' | h'
            · exact h'
            · rw [List.getElem?_eq_none (by simpa using h')] at hu; cases hu
          obtain ⟨rfl, hc⟩ := hbo (by omega)
          rw [bytes_at hj] at hu
          cases hu
          rw [addr_add]
          exact hc j hj⟩
        have hU : ∀ u ∈ xD.map (Value.int .u8), u.oneCell' = true := by
          intro u hu
          obtain ⟨z, _, rfl⟩ := List.mem_map.mp hu
          rfl
        have HU := Hd.mk hU
        clear hbo hBx' hNx hU
        go_wp2_with (at_builtin; refine wpList_append_own _ rfl _ _ 25 rfl w.heap.size 5 i0 (.int .u8 0) 1 1 Tryz.underlying25 hi hz0 hz1 hz2 rfl (by decide) _ _ _ rfl HO.out ad xD.length xc (xD.map (Value.int .u8)) rfl ?c0 HC.out HU.out ?c3 ?c4 ?c5 ?_)
        case c3 => unfold maxLen; omega
        case c4 => omega
        intro v' w1 hown1 hgrow _
        have HO1 := Hd.mk hown1
        have HB1 : Hd (Below w.heap.size w w1) := ⟨Below.grown HB.out hgrow hsz fun g hg => (HO.out.lt g hg).1⟩
        clear hown1 hgrow hi hz0 hz1 hz2
        go_wp2
        go_roundg gk
        case measure => exact Nat.lt_succ_self _
        case rel => exact ⟨k + 1, by go_num, ⟨by have := HK.out; omega⟩, ⟨by rw [ht.out, List.length_append, List.map_append]; exact HO1.out⟩, HB1⟩
end Go.Proofs.YtfcedenofbefcaaGreatDoor
