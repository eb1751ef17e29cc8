import Derived.Test.YtfcedenofbefcaaGreatDoorK7
import Derived.Test.YtfcedenofbefcaaGreatDoorA1
namespace Go.Proofs.YtfcedenofbefcaaGreatDoor
open Go.RowKit
set_option linter.unusedVariables false
set_option linter.unusedSimpArgs false
def hasB (T : List Int) (c : Int) : Bool := T.any (· == c)
theorem hasB_take (T : List Int) (c : Int) (k : Nat) (h : k < T.length) : hasB (T.take (k + 1)) c = (hasB (T.take k) c || T.getD k 0 == c) := by
  have : T.take (k + 1) = T.take k ++ [T.getD k 0] := by rw [List.take_succ_eq_append_getElem h, List.getD_eq_getElem?_getD, List.getElem?_eq_getElem h]; rfl
  unfold hasB
  rw [this, List.any_append]
  simp
theorem hasB_hit (T : List Int) (c : Int) (k : Nat) (h : k < T.length) (e : (T.getD k 0 == c) = true) : hasB T c = true := by
  unfold hasB
  rw [List.any_eq_true]
  refine ⟨T.getD k 0, ?_, e⟩
  rw [List.getD_eq_getElem?_getD, List.getElem?_eq_getElem h]
  exact List.getElem_mem h
set_option maxHeartbeats 4000000 in
theorem Has_calls {w : World} {A : Option Addr} {cp : Nat} {T : List Int} (h : Bytes w A T) (c : Int) :
    Calls Tryz.prog 39 #[.slice A T.length cp, .int .u8 c] w fun e w' => e = .returned (.bool (hasB T c)) ∧ w = w' := by
  have hlen := h.len
  go_enter Tryz.func39, Tryz.ntmps39
  go_wp2
  go_loop [9] (fun i => ∃ k : Nat, k ≤ T.length ∧ i = .int .i64 k ∧ Hd (hasB (T.take k) c = false)) (fun i => T.length - (intOf i).toNat)
  case atStart => exact ⟨0, Nat.zero_le _, rfl, ⟨by simp [hasB]⟩⟩
  case round =>
    obtain ⟨k, hk, rfl, hp⟩ := hrel
    by_cases hlt : k < T.length
    · obtain ⟨b, off, rfl, hc⟩ := h.cells (by omega)
      have hcell := hc k hlt
      have hs := Hd.mk (hasB_take T c k hlt)
      have hh := Hd.mk (hasB_hit T c k hlt)
      generalize T.getD k 0 = x at hcell hs hh
      clear hc
      by_cases hx : (x == c) = true
      · go_wp2
        go_ret
        exact ⟨by rw [hh.out hx]; rfl, rfl⟩
      · replace hx := Bool.eq_false_iff.mpr hx
        go_wp2
        go_round
        case rel => exact ⟨k + 1, by omega, by go_num, ⟨by rw [hs.out, hp.out, hx]; rfl⟩⟩
        case measure => simp [intOf]; omega
    · go_wp2
      go_ret
      have := hp.out
      rw [List.take_of_length_le (by omega)] at this
      exact ⟨by rw [this]; rfl, rfl⟩
theorem Bytes.below' {w w' : World} {A : Option Addr} {T : List Int} (h : Bytes w A T) (k : Below w.heap.size w w') : Bytes w' A T := h.of_block fun ad _ hl => k.block ad.block hl
/-- An attribute in memory. -/
structure AttrV where
  A1 : Option Addr
  A2 : Option Addr
  A3 : Option Addr
  A4 : Option Addr
  A5 : Option Addr
  c1 : Nat
  c2 : Nat
  c3 : Nat
  c4 : Nat
  c5 : Nat
  d : AttrD
def AttrV.vals (x : AttrV) : List Value := [.slice x.A1 x.d.before.length x.c1, .slice x.A2 x.d.name.length x.c2, .slice x.A3 x.d.ahead.length x.c3, .slice x.A4 x.d.behind.length x.c4, .slice x.A5 x.d.value.length x.c5, .int .i64 x.d.quote]
/-- A slice of bytes that came in. -/
structure Slc (w : World) (A : Option Addr) (T : List Int) (c : Nat) : Prop where
  b : Bytes w A T
  k : T.length ≤ c
  z : A = none → c = 0
/-- An address of bytes below lo. -/
def Lo (lo : Nat) (A : Option Addr) (T : List Int) : Prop := 0 < T.length → ∀ ad, A = some ad → ad.block < lo
theorem Slc.i {w : World} {A : Option Addr} {T : List Int} {c : Nat} (h : Slc w A T c) : Lo w.heap.size A T := fun h0 ad e => by
  obtain ⟨b, o, e', hc⟩ := h.b.cells h0
  rw [e] at e'
  injection e' with e'
  subst e'
  exact World.block_lt_of_cell? _ _ (hc 0 h0)
theorem Bytes.of_block0 {w w' : World} {A : Option Addr} {T : List Int} (h : Bytes w A T) (h1 : 0 < T.length → ∀ ad, A = some ad → ad.block < w.heap.size → w'.heap[ad.block]? = w.heap[ad.block]?) : Bytes w' A T := by
  by_cases h0 : 0 < T.length
  · exact h.of_block (h1 h0)
  · exact ⟨h.len, fun h => absurd h h0⟩
theorem Slc.below {w w' : World} {A : Option Addr} {T : List Int} {c : Nat} (h : Slc w A T c) (k : Below w.heap.size w w') : Slc w' A T c := ⟨h.b.below' k, h.k, h.z⟩
structure AttrV.In (x : AttrV) (w : World) : Prop where
  s1 : Slc w x.A1 x.d.before x.c1
  s2 : Slc w x.A2 x.d.name x.c2
  s3 : Slc w x.A3 x.d.ahead x.c3
  s4 : Slc w x.A4 x.d.behind x.c4
  s5 : Slc w x.A5 x.d.value x.c5
theorem AttrV.In.b1 {x : AttrV} {w : World} (h : x.In w) : Bytes w x.A1 x.d.before := h.s1.b
theorem AttrV.In.b2 {x : AttrV} {w : World} (h : x.In w) : Bytes w x.A2 x.d.name := h.s2.b
theorem AttrV.In.b3 {x : AttrV} {w : World} (h : x.In w) : Bytes w x.A3 x.d.ahead := h.s3.b
theorem AttrV.In.b4 {x : AttrV} {w : World} (h : x.In w) : Bytes w x.A4 x.d.behind := h.s4.b
theorem AttrV.In.b5 {x : AttrV} {w : World} (h : x.In w) : Bytes w x.A5 x.d.value := h.s5.b
theorem AttrV.In.below {x : AttrV} {w w' : World} (h : x.In w) (k : Below w.heap.size w w') : x.In w' := ⟨h.s1.below k, h.s2.below k, h.s3.below k, h.s4.below k, h.s5.below k⟩
/-- Attributes in memory, one behind the other. -/
structure AttrsAt (w : World) (A : Option Addr) (l : List AttrV) : Prop where
  len : l.length ≤ 140737488355328
  cells : 0 < l.length → ∃ b o, A = some ⟨b, o, none⟩ ∧ ∀ i x, l[i]? = some x → ∀ j u, x.vals[j]? = some u → w.cell? ⟨b, o + i * 6 + j, none⟩ = some u
  each : ∀ x ∈ l, x.In w
theorem AttrsAt.below {w w' : World} {A : Option Addr} {l : List AttrV} (h : AttrsAt w A l) (k : Below w.heap.size w w') : AttrsAt w' A l :=
  ⟨h.len, fun h0 => by
    obtain ⟨b, o, e, hc⟩ := h.cells h0
    exact ⟨b, o, e, fun i x hx j u hu => (k.cell (p := ⟨b, o + i * 6 + j, none⟩) (World.block_lt_of_cell? _ _ (hc i x hx j u hu))).trans (hc i x hx j u hu)⟩, fun x hx => (h.each x hx).below k⟩
/-- An item in memory. -/
structure ItemV where
  kind : Int
  A1 : Option Addr
  A2 : Option Addr
  A3 : Option Addr
  c1 : Nat
  c2 : Nat
  c3 : Nat
  text : List Int
  name : List Int
  attrs : List AttrV
def ItemV.d (x : ItemV) : ItemD := ⟨x.kind, x.text, x.name, x.attrs.map AttrV.d⟩
def ItemV.vals (x : ItemV) : List Value := [.int .i64 x.kind, .slice x.A1 x.text.length x.c1, .slice x.A2 x.name.length x.c2, .slice x.A3 x.attrs.length x.c3]
structure ItemV.In (x : ItemV) (w : World) : Prop where
  s1 : Slc w x.A1 x.text x.c1
  s2 : Slc w x.A2 x.name x.c2
  b3 : AttrsAt w x.A3 x.attrs
theorem ItemV.In.b1 {x : ItemV} {w : World} (h : x.In w) : Bytes w x.A1 x.text := h.s1.b
theorem ItemV.In.b2 {x : ItemV} {w : World} (h : x.In w) : Bytes w x.A2 x.name := h.s2.b
theorem ItemV.In.k1 {x : ItemV} {w : World} (h : x.In w) : x.text.length ≤ x.c1 := h.s1.k
theorem ItemV.In.below {x : ItemV} {w w' : World} (h : x.In w) (k : Below w.heap.size w w') : x.In w' := ⟨h.s1.below k, h.s2.below k, h.b3.below k⟩
structure ItemsAt (w : World) (A : Option Addr) (l : List ItemV) : Prop where
  len : l.length ≤ 140737488355328
  cells : 0 < l.length → ∃ b o, A = some ⟨b, o, none⟩ ∧ ∀ i x, l[i]? = some x → ∀ j u, x.vals[j]? = some u → w.cell? ⟨b, o + i * 4 + j, none⟩ = some u
  each : ∀ x ∈ l, x.In w
theorem ItemsAt.below {w w' : World} {A : Option Addr} {l : List ItemV} (h : ItemsAt w A l) (k : Below w.heap.size w w') : ItemsAt w' A l :=
  ⟨h.len, fun h0 => by
    obtain ⟨b, o, e, hc⟩ := h.cells h0
    exact ⟨b, o, e, fun i x hx j u hu => (k.cell (p := ⟨b, o + i * 4 + j, none⟩) (World.block_lt_of_cell? _ _ (hc i x hx j u hu))).trans (hc i x hx j u hu)⟩, fun x hx => (h.each x hx).below k⟩
/-- A call that answers one bool of which P holds, and writes no block that was there. -/
def Says (P : Bool → Prop) (w : World) (e : Ending) (w' : World) : Prop := (∃ b, e = .returned (.bool b) ∧ P b) ∧ Below w.heap.size w w'
theorem AttrsAt.six {w : World} {A : Option Addr} {l : List AttrV} (h : AttrsAt w A l) (k : Nat) (x : AttrV) (hx : l[k]? = some x) : ∃ b o, A = some ⟨b, o, none⟩ ∧
    w.cell? ⟨b, o + k * 6, none⟩ = some (.slice x.A1 x.d.before.length x.c1) ∧ w.cell? ⟨b, o + k * 6 + 1, none⟩ = some (.slice x.A2 x.d.name.length x.c2) ∧ w.cell? ⟨b, o + k * 6 + 2, none⟩ = some (.slice x.A3 x.d.ahead.length x.c3) ∧
    w.cell? ⟨b, o + k * 6 + 3, none⟩ = some (.slice x.A4 x.d.behind.length x.c4) ∧ w.cell? ⟨b, o + k * 6 + 4, none⟩ = some (.slice x.A5 x.d.value.length x.c5) ∧ w.cell? ⟨b, o + k * 6 + 5, none⟩ = some (.int .i64 x.d.quote) ∧ x.In w := by
  have hk := (List.getElem?_eq_some_iff.mp hx).1
  obtain ⟨b, o, e, hc⟩ := h.cells (by omega)
  exact ⟨b, o, e, hc k x hx 0 _ rfl, hc k x hx 1 _ rfl, hc k x hx 2 _ rfl, hc k x hx 3 _ rfl, hc k x hx 4 _ rfl, hc k x hx 5 _ rfl, h.each x (List.mem_of_getElem? hx)⟩
theorem ItemsAt.four {w : World} {A : Option Addr} {l : List ItemV} (h : ItemsAt w A l) (k : Nat) (x : ItemV) (hx : l[k]? = some x) : ∃ b o, A = some ⟨b, o, none⟩ ∧
    w.cell? ⟨b, o + k * 4, none⟩ = some (.int .i64 x.kind) ∧ w.cell? ⟨b, o + k * 4 + 1, none⟩ = some (.slice x.A1 x.text.length x.c1) ∧ w.cell? ⟨b, o + k * 4 + 2, none⟩ = some (.slice x.A2 x.name.length x.c2) ∧
    w.cell? ⟨b, o + k * 4 + 3, none⟩ = some (.slice x.A3 x.attrs.length x.c3) ∧ x.In w := by
  have hk := (List.getElem?_eq_some_iff.mp hx).1
  obtain ⟨b, o, e, hc⟩ := h.cells (by omega)
  exact ⟨b, o, e, hc k x hx 0 _ rfl, hc k x hx 1 _ rfl, hc k x hx 2 _ rfl, hc k x hx 3 _ rfl, h.each x (List.mem_of_getElem? hx)⟩
theorem zz7_calls {w : World} (A1 A2 A3 A4 A5 : Option Addr) (n1 n2 n3 n4 n5 c1 c2 c3 c4 c5 : Nat) (q : Int) :
    Calls Tryz.prog 81 #[.agg #[.slice A1 n1 c1, .slice A2 n2 c2, .slice A3 n3 c3, .slice A4 n4 c4, .slice A5 n5 c5, .int .i64 q]] w (Says (fun _ => True) w) := by
  have HB : Hd (Below w.heap.size w (w.alloc (.cells #[.slice A1 n1 c1, .slice A2 n2 c2, .slice A3 n3 c3, .slice A4 n4 c4, .slice A5 n5 c5, .int .i64 q] 47))) := ⟨(Below.refl _ _).alloc (Nat.le_refl _) _⟩
  go_enter Tryz.func81, Tryz.ntmps81
  by_cases h1 : (2147483647 : Int) < (n1 : Int)
  · have h1d : decide ((2147483647 : Int) < (n1 : Int)) = true := decide_eq_true h1
    go_wp2_with fail
    go_ret
    exact ⟨⟨_, rfl, trivial⟩, HB.out⟩
  have h1d : decide ((2147483647 : Int) < (n1 : Int)) = false := decide_eq_false h1
  by_cases h2 : (2147483647 : Int) < (n2 : Int)
  · have h2d : decide ((2147483647 : Int) < (n2 : Int)) = true := decide_eq_true h2
    go_wp2_with fail
    go_ret
    exact ⟨⟨_, rfl, trivial⟩, HB.out⟩
  have h2d : decide ((2147483647 : Int) < (n2 : Int)) = false := decide_eq_false h2
  by_cases h3 : (2147483647 : Int) < (n3 : Int)
  · have h3d : decide ((2147483647 : Int) < (n3 : Int)) = true := decide_eq_true h3
    go_wp2_with fail
    go_ret
    exact ⟨⟨_, rfl, trivial⟩, HB.out⟩
  have h3d : decide ((2147483647 : Int) < (n3 : Int)) = false := decide_eq_false h3
  by_cases h4 : (2147483647 : Int) < (n4 : Int)
  · have h4d : decide ((2147483647 : Int) < (n4 : Int)) = true := decide_eq_true h4
    go_wp2_with fail
    go_ret
    exact ⟨⟨_, rfl, trivial⟩, HB.out⟩
  have h4d : decide ((2147483647 : Int) < (n4 : Int)) = false := decide_eq_false h4
  by_cases h5 : (2147483647 : Int) < (n5 : Int)
  · have h5d : decide ((2147483647 : Int) < (n5 : Int)) = true := decide_eq_true h5
    go_wp2_with fail
    go_ret
    exact ⟨⟨_, rfl, trivial⟩, HB.out⟩
  have h5d : decide ((2147483647 : Int) < (n5 : Int)) = false := decide_eq_false h5
  go_wp2_with fail
  go_ret
  exact ⟨⟨_, rfl, trivial⟩, HB.out⟩
theorem zz6_calls {w : World} {A : Option Addr} {l : List AttrV} {cp : Nat} (h : AttrsAt w A l) :
    Calls Tryz.prog 42 #[.slice A l.length cp] w (Says (fun _ => True) w) := by
  have HA := Hd.mk h
  have hlen := h.len
  clear h
  go_enter Tryz.func42, Tryz.ntmps42
  by_cases h1 : (2147483647 : Int) < (l.length : Int)
  · have h1d : decide ((2147483647 : Int) < (l.length : Int)) = true := decide_eq_true h1
    go_wp2_with fail
    go_ret
    exact ⟨⟨_, rfl, trivial⟩, Below.refl _ _⟩
  have h1d : decide ((2147483647 : Int) < (l.length : Int)) = false := decide_eq_false h1
  go_wp2_with fail
  go_loopg [10] l.length (fun gk v10 w' => ∃ k : Nat, v10 = .int .i64 k ∧ Hd (k + gk = l.length) ∧ Hd (Below w.heap.size w w'))
  case atStart => exact ⟨0, rfl, ⟨by omega⟩, ⟨Below.refl _ _⟩⟩
  case round =>
    obtain ⟨k, rfl, HK, HB⟩ := hrel
    cases gk with
    | zero =>
      have hk : k = l.length := by have := HK.out; omega
      subst hk
      go_wp2
      go_ret
      exact ⟨⟨_, rfl, trivial⟩, HB.out⟩
    | succ gk =>
      have hlt : k < l.length := by have := HK.out; omega
      have hil : (k : Int) < (l.length : Int) := by omega
      obtain ⟨x, hx⟩ : ∃ x, l[k]? = some x := ⟨_, List.getElem?_eq_getElem hlt⟩
      obtain ⟨b, o, rfl, g0, g1, g2, g3, g4, g5, hin⟩ := (HA.out.below HB.out).six k x hx
      have HI := Hd.mk hin
      have HBn := Hd.mk (fun ob => HB.out.alloc HB.out.size ob)
      clear hin hx HB
      go_wp2_with fail
      refine (zz7_calls _ _ _ _ _ _ _ _ _ _ _ _ _ _ _ _).mono ?_
      rintro e w' ⟨⟨r, rfl, _⟩, hB⟩
      have HB2 := Hd.mk ((HBn.out _).trans (hB.mono (HBn.out _).size))
      clear hB HBn
      cases r with
      | true =>
        go_wp2_with fail
        go_roundg gk
        case measure => exact Nat.lt_succ_self _
        case rel => exact ⟨k + 1, by go_num, ⟨by have := HK.out; omega⟩, HB2⟩
      | false =>
        go_wp2_with fail
        go_ret
        exact ⟨⟨_, rfl, trivial⟩, HB2.out⟩
theorem zz5_calls {w : World} (x : ItemV) (h : x.In w) : Calls Tryz.prog 19 #[.agg #[.int .i64 x.kind, .slice x.A1 x.text.length x.c1, .slice x.A2 x.name.length x.c2, .slice x.A3 x.attrs.length x.c3]] w (Says (fun _ => True) w) := by
  have HB : Hd (Below w.heap.size w (w.alloc (.cells #[.int .i64 x.kind, .slice x.A1 x.text.length x.c1, .slice x.A2 x.name.length x.c2, .slice x.A3 x.attrs.length x.c3] 43))) := ⟨(Below.refl _ _).alloc (Nat.le_refl _) _⟩
  have HA := Hd.mk (h.b3.below HB.out)
  generalize x.text.length = n1 at HB HA ⊢
  generalize x.name.length = n2 at HB HA ⊢
  clear h
  go_enter Tryz.func19, Tryz.ntmps19
  by_cases h1 : (2147483647 : Int) < (n1 : Int)
  · have h1d : decide ((2147483647 : Int) < (n1 : Int)) = true := decide_eq_true h1
    go_wp2_with fail
    go_ret
    exact ⟨⟨_, rfl, trivial⟩, HB.out⟩
  have h1d : decide ((2147483647 : Int) < (n1 : Int)) = false := decide_eq_false h1
  by_cases h2 : (2147483647 : Int) < (n2 : Int)
  · have h2d : decide ((2147483647 : Int) < (n2 : Int)) = true := decide_eq_true h2
    go_wp2_with fail
    go_ret
    exact ⟨⟨_, rfl, trivial⟩, HB.out⟩
  have h2d : decide ((2147483647 : Int) < (n2 : Int)) = false := decide_eq_false h2
  go_wp2_with fail
  refine (zz6_calls HA.out).mono ?_
  rintro e w' ⟨⟨r, rfl, _⟩, hB⟩
  have HB2 := Hd.mk (HB.out.trans (hB.mono HB.out.size))
  clear hB HA
  cases r with
  | true =>
    go_wp2_with fail
    go_ret
    exact ⟨⟨_, rfl, trivial⟩, HB2.out⟩
  | false =>
    go_wp2_with fail
    go_ret
    exact ⟨⟨_, rfl, trivial⟩, HB2.out⟩
theorem zz4_calls {w : World} {A : Option Addr} {l : List ItemV} {cp : Nat} (h : ItemsAt w A l) :
    Calls Tryz.prog 7 #[.slice A l.length cp] w (Says (fun _ => True) w) := by
  have HA := Hd.mk h
  have hlen := h.len
  clear h
  go_enter Tryz.func7, Tryz.ntmps7
  by_cases h1 : (2147483647 : Int) < (l.length : Int)
  · have h1d : decide ((2147483647 : Int) < (l.length : Int)) = true := decide_eq_true h1
    go_wp2_with fail
    go_ret
    exact ⟨⟨_, rfl, trivial⟩, Below.refl _ _⟩
  have h1d : decide ((2147483647 : Int) < (l.length : Int)) = false := decide_eq_false h1
  go_wp2_with fail
  go_loopg [10] l.length (fun gk v10 w' => ∃ k : Nat, v10 = .int .i64 k ∧ Hd (k + gk = l.length) ∧ Hd (Below w.heap.size w w'))
  case atStart => exact ⟨0, rfl, ⟨by omega⟩, ⟨Below.refl _ _⟩⟩
  case round =>
    obtain ⟨k, rfl, HK, HB⟩ := hrel
    cases gk with
    | zero =>
      have hk : k = l.length := by have := HK.out; omega
      subst hk
      go_wp2
      go_ret
      exact ⟨⟨_, rfl, trivial⟩, HB.out⟩
    | succ gk =>
      have hlt : k < l.length := by have := HK.out; omega
      have hil : (k : Int) < (l.length : Int) := by omega
      obtain ⟨x, hx⟩ : ∃ x, l[k]? = some x := ⟨_, List.getElem?_eq_getElem hlt⟩
      obtain ⟨b, o, rfl, g0, g1, g2, g3, hin⟩ := (HA.out.below HB.out).four k x hx
      have HI := Hd.mk hin
      have HBn := Hd.mk (fun ob => HB.out.alloc HB.out.size ob)
      clear hin hx HB
      go_wp2_with fail
      refine (zz5_calls x (HI.out.below ((Below.refl _ _).alloc (Nat.le_refl _) _))).mono ?_
      rintro e w' ⟨⟨r, rfl, _⟩, hB⟩
      have HB2 := Hd.mk ((HBn.out _).trans (hB.mono (HBn.out _).size))
      clear hB HBn
      cases r with
      | true =>
        go_wp2_with fail
        go_roundg gk
        case measure => exact Nat.lt_succ_self _
        case rel => exact ⟨k + 1, by go_num, ⟨by have := HK.out; omega⟩, HB2⟩
      | false =>
        go_wp2_with fail
        go_ret
        exact ⟨⟨_, rfl, trivial⟩, HB2.out⟩
end Go.Proofs.YtfcedenofbefcaaGreatDoor
