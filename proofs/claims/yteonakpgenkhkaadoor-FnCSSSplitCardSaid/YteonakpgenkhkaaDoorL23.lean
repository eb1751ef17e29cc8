import Derived.Test.YteonakpgenkhkaaDoorL21
import Derived.Test.YteonakpgenkhkaaDoorL22
import Derived.Test.YteonakpgenkhkaaDoorL8
namespace Go.Proofs.YteonakpgenkhkaaDoor
open Go.RowKit
set_option linter.unusedVariables false
set_option linter.unusedSimpArgs false
/-- The error at the end, or none. -/
def errv (r : Bool) (ET : TypeId) (EA : Addr) : Value := match r with | true => .iface ET (.pointer (some EA)) | false => .nilIface
theorem errv_eql (r : Bool) (EA : Addr) (w : World) : (binOp .eql 53 (errv r 80 EA) (.iface 80 (.pointer (some EA)))).run Tryd.prog w = .ok (.bool r) w := by
  cases r
  · exact nil_eql EA w
  · exact eof_eql EA w
theorem errv_guard (r : Bool) (EA : Addr) (x y : Operand) (w : World) : (eqGuard .eql 53 x y (errv r 80 EA) (.iface 80 (.pointer (some EA)))).run Tryd.prog w = .ok () w := by cases r <;> rfl
theorem PeekErr_quiet {w : World} {l z b : Nat} {B : List Int} {ET : TypeId} {EA : Addr} {p s : Int} (h : Lx w l z b B ET EA p s) (n : Int) (r : Bool) (hn : atEnd B p n = r) :
    Calls Tryd.prog 90 #[.pointer (some ⟨z, 0, none⟩), .int .i64 n] w fun e w' => e = .returned (errv r ET EA) ∧ ∃ m, w' = w.drewN m := by
  obtain ⟨cp, hcp, hz⟩ := h.inp
  have h0 := (cell_of_block hz 0).trans rfl
  have h1 := (cell_of_block hz 1).trans rfl
  have h3 := (cell_of_block hz 3).trans rfl
  have h00 := h.eof
  unfold atEnd at hn
  clear hz
  cases r with
  | true =>
    go_enter Tryd.func90, Tryd.ntmps90
    go_wp2
    go_quiet (fail)
    go_wp2
    go_ret
    exact ⟨rfl, _, rfl⟩
  | false =>
    go_enter Tryd.func90, Tryd.ntmps90
    go_wp2
    go_quiet (fail)
    go_wp2
    go_ret
    exact ⟨rfl, _, rfl⟩
theorem Err_quiet {w : World} {l z b : Nat} {B : List Int} {ET : TypeId} {EA : Addr} {p s : Int} (h : Lx w l z b B ET EA p s) (r : Bool) (hn : atEnd B p 0 = r) :
    Calls Tryd.prog 71 #[.pointer (some ⟨z, 0, none⟩)] w fun e w' => e = .returned (errv r ET EA) ∧ ∃ m, w' = w.drewN m := by
  have H := Hd.mk hn
  clear hn
  go_enter Tryd.func71, Tryd.ntmps71
  go_wp2_with fail
  refine (PeekErr_quiet h 0 r H.out).mono ?_
  rintro e w1 ⟨rfl, m, rfl⟩
  go_wp2_with fail
  go_ret
  exact ⟨rfl, m, rfl⟩
theorem LErr_quiet {w : World} {l z b : Nat} {B : List Int} {ET : TypeId} {EA : Addr} {p s : Int} (h : Lx w l z b B ET EA p s) (r : Bool) (hn : atEnd B p 0 = r) :
    Calls Tryd.prog 33 #[.pointer (some ⟨l, 0, none⟩)] w fun e w' => e = .returned (errv r ET EA) ∧ ∃ m, w' = w.drewN m := by
  have H := Hd.mk hn
  have hl := h.cl
  clear hn
  go_enter Tryd.func33, Tryd.ntmps33
  go_wp2_with fail
  refine (Err_quiet h r H.out).mono ?_
  rintro e w1 ⟨rfl, m, rfl⟩
  go_wp2_with fail
  go_ret
  exact ⟨rfl, m, rfl⟩
abbrev Told := List (List Int × List Int)
/-- What the lexer's loop collects. -/
def cssl (K : Nat) (B : List Int) : Nat → Int → Int → Told → Option (Told × Int)
  | 0, p, _, L => some (L, p)
  | k + 1, p, s, L => (Next.f K B p s).bind fun (t, lo, hi, p', s') =>
    if (t == 0) = true then some (L, p') else
    (kname t).bind fun n => (subB B lo hi).bind fun D => cssl K B k p' s' (L ++ [(n, D)])
def cssF (N K : Nat) (T : List Int) : Option (Told × Bool) := (cssl K (T ++ [0]) N 0 0 []).bind fun (L, p) => some (L, atEnd (T ++ [0]) p 0)
def PiecesPost (L : Told) (r : Bool) (w : World) (e : Ending) (w' : World) : Prop :=
  ∃ v P base, e = .returned (.tuple #[v, .bool r]) ∧ Pcs w' w.heap.size base v P ∧ P.map Pc.told = L ∧ Below w.heap.size w w'
theorem Tryd.underlying26' : Tryd.prog.underlying 26 = some (.slice 31) := by kernel_rfl
theorem Made.lt {T : List Int} {B0 : Nat} {w w' : World} {l z b : Nat} {ET : TypeId} {EA : Addr} (h : Made T B0 w w' l z b ET EA) : l < w'.heap.size ∧ z < w'.heap.size ∧ b < w'.heap.size :=
  ⟨lt_of_heap h.lx.lex, lt_of_heap h.lx.inp.choose_spec.2, h.lx.bl⟩
theorem inp_no5 {w : World} {l z b : Nat} {B : List Int} {ET : TypeId} {EA : Addr} {p s : Int} (h : Lx w l z b B ET EA p s) : ∀ cs f, w.heap[z]? ≠ some (.cells cs 5 f) := by
  obtain ⟨c, hc, hi⟩ := h.inp
  intro cs f e
  rw [hi] at e
  simp at e
theorem copy_bytes {w : World} {g : Nat} {D : List Int} {f : Nat × Nat} (h : w.heap[g]? = some (.cells (D.map (Value.int .u8)).toArray 5 f)) (hl : D.length ≤ 140737488355328) : Bytes w (some ⟨g, 0, none⟩) D := by
  refine ⟨hl, fun _ => ⟨_, _, rfl, fun j hj => ?_⟩⟩
  rw [cell_of_block h, Nat.zero_add]
  simp only [List.getElem?_toArray]
  exact bytes_at hj
set_option maxHeartbeats 8000000 in
set_option maxRecDepth 100000 in
theorem CSS_calls (K N : Nat) (hN : Hd (N = 100000)) {w : World} {A : Option Addr} {T : List Int} {cp : Nat} {EA : Addr} (h0 : w.cell? ⟨0, 0, none⟩ = some (.iface 80 (.pointer (some EA)))) (h : Bytes w A T) (hlen : T.length ≤ 140737488355000) (L : Told) (r : Bool) (H : Hd (cssF N K T = some (L, r))) :
    Calls Tryd.prog 12 #[.slice A T.length cp] w (PiecesPost L r w) := by
  have hb0 := World.block_lt_of_cell? _ _ h0
  have H0 := Hd.mk h0
  obtain ⟨i0, hi, hz0, hz1, hz2⟩ := info_parts Tryd.info31
  have HI := Hd.mk (And.intro hi (And.intro hz0 (And.intro hz1 hz2)))
  clear h0 hi hz0 hz1 hz2
  go_enter Tryd.func12, Tryd.ntmps12
  go_wp2_with fail
  refine (implCopy_calls h).mono ?_
  rintro e w1 ⟨rfl, h1, h2⟩
  have H1 := Hd.mk h1
  have H2 := Hd.mk h2
  clear h1 h2
  go_wp2_with fail
  refine (NewInputBytes_calls (B0 := w.heap.size) (Nat.le_refl _) H1.out hlen).mono ?_
  intro e w2 hn
  obtain ⟨z, b, rfl, hM⟩ := made (w := w) H0.out (Nat.le_refl _) (Nat.lt_of_le_of_lt (Nat.zero_le _) hb0) hlen H2.out H2.out.size hn
  clear hn
  go_wp2_with fail
  refine (NewLexer_calls).mono ?_
  rintro e w3 ⟨rfl, rfl⟩
  obtain ⟨hlw, hzw, hbw⟩ := hM.lt
  have hI3 := Hd.mk hM.lx
  have hB3 := Hd.mk hM.mem
  have hlz := hM.hz
  have hsz := hM.mem.size
  generalize hW3 : w2.alloc (.cells #[.pointer (some ⟨z, 0, none⟩)] 58) = W3 at hlw hzw hbw hI3 hB3 hsz ⊢
  generalize w2.heap.size = l at hlw hI3 ⊢
  clear hM hW3 H1 H2
  obtain ⟨⟨L1, pe⟩, HL, HR⟩ := H.bind
  obtain ⟨hL1, hr⟩ := HR.p2
  subst hL1
  have HE := Hd.mk hr
  clear H HR hr
  go_wp2_with fail
  go_loopg [5, 13] N (fun gk v5 v13 w' => ∃ (i : Nat) (p s : Int) (L' : Told) (P : List Pc), v13 = .int .i64 i ∧ Hd (i + gk = N) ∧ Hd (cssl K (T ++ [0]) gk p s L' = some (L1, pe)) ∧ Hd (Lx w' l z b (T ++ [0]) 80 EA p s) ∧ Hd (Pcs w' w.heap.size W3.heap.size v5 P) ∧ Hd (P.map Pc.told = L') ∧ Hd (Below w.heap.size w w') ∧ Hd (W3.heap.size ≤ w'.heap.size ∧ P.length = i))
  case atStart => exact ⟨0, 0, 0, [], [], rfl, ⟨by omega⟩, HL, ⟨hI3.out.alloc _⟩, ⟨Pcs.nil (Nat.le_refl _) hsz⟩, ⟨rfl⟩, ⟨hB3.out.alloc hsz _⟩, ⟨by simp⟩⟩
  case round =>
    obtain ⟨i, p, s, L', P, rfl, HK, HC, hI, hP, HT, hB, HS⟩ := hrel
    clear HL hI3 hB3
    cases gk with
    | zero =>
      have hlt : ¬ ((i : Int) < 100000) := by have := HK.out; have := hN.out; omega
      have hlt2 : decide ((i : Int) < 100000) = false := decide_eq_false hlt
      obtain ⟨hL, hpe⟩ := HC.p2
      subst hpe
      have HT' := Hd.mk (HT.out.trans hL)
      have h00 := hI.out.eof
      have C0 := Hd.mk (fun n => LErr_quiet (hI.out.drewN n) r HE.out)
      have hq1 := errv_eql r EA
      have hq2 := errv_guard r EA
      clear hL HC
      go_wp2
      go_quiet (with_reducible exact Calls.quiet_of (C0.out _))
      go_wp2
      go_ret2
      exact ⟨_, P, _, rfl, hP.out.drewN _, HT'.out, hB.out.frz' _ rfl rfl rfl rfl⟩
    | succ gk =>
      have hlt : (i : Int) < 100000 := by have := HK.out; have := hN.out; omega
      have hlt2 : decide ((i : Int) < 100000) = true := decide_eq_true hlt
      have hib : i < 9223372036854775807 := by have := HK.out; have := hN.out; omega
      have HC2 : Hd (((Next.f K (T ++ [0]) p s).bind fun (t, lo, hi, p', s') => if (t == 0) = true then some (L', p') else
        (kname t).bind fun n => (subB (T ++ [0]) lo hi).bind fun D => cssl K (T ++ [0]) gk p' s' (L' ++ [(n, D)])) = some (L1, pe)) := ⟨HC.out⟩
      obtain ⟨⟨t, lo', hi', p', s'⟩, A1, HC3⟩ := HC2.bind
      clear HC HC2
      dsimp only at HC3
      by_cases et : (t == 0) = true
      · obtain ⟨hL, hpe⟩ := (HC3.pos et).p2
        subst hpe
        have HT' := Hd.mk (HT.out.trans hL)
        clear hL HC3
        go_wp2_with fail
        refine (Next.calls K hI.out t lo' hi' p' s' A1).mono ?_
        rintro e w5 ⟨rfl, hI5, k5⟩
        have hP5 := hP.out.fr k5 hlz hzw (inp_no5 hI.out)
        have hB5 := hB.out.frz k5 hlz hB.out.size
        have h00 := hI5.eof
        have C0 := Hd.mk (fun n => LErr_quiet (hI5.drewN n) r HE.out)
        have hq1 := errv_eql r EA
        have hq2 := errv_guard r EA
        go_wp2_with fail
        go_quiet (with_reducible exact Calls.quiet_of (C0.out _))
        go_wp2_with fail
        go_ret2
        exact ⟨_, P, _, rfl, hP5.drewN _, HT'.out, hB5.frz' _ rfl rfl rfl rfl⟩
      · replace HC3 := HC3.neg et
        replace et := Bool.eq_false_iff.mpr et
        obtain ⟨n, A2, HC4⟩ := HC3.bind
        obtain ⟨D, A3, HC5⟩ := HC4.bind
        clear HC3 HC4
        obtain ⟨A4, c4, hsl, hDc, hDB⟩ := slv_form (b := b) A3
        have HN := Next.calls K hI.out t lo' hi' p' s' A1
        have hnx : nxv b t lo' hi' = .slice A4 D.length c4 := by unfold nxv; rw [if_neg (by rw [et]; decide), hsl]
        rw [hnx] at HN
        have HD := Hd.mk hDB
        clear hnx hsl hDB
        go_wp2_with fail
        refine HN.mono ?_
        rintro e w5 ⟨rfl, hI5, k5⟩
        have hP5 := hP.out.fr k5 hlz hzw (inp_no5 hI.out)
        have hB5 := hB.out.frz k5 hlz hB.out.size
        have hD5 := HD.out _ _ _ _ _ _ _ hI5
        clear HN
        go_wp2_with fail
        refine (cssName_calls _ t n A2).mono ?_
        rintro e w6 ⟨rfl, hb6⟩
        have hI6 := hI5.below hb6
        have hP6 := hP5.below hb6
        have hD6 := hD5.below' hb6
        have hB6 := hB5.trans (hb6.mono hB5.size)
        have HB6 := Hd.mk hb6.size
        clear hI5 hP5 hB5 hb6
        go_wp2_with fail
        refine (implCopy_calls hD6).mono ?_
        rintro e w7 ⟨rfl, h7, hb7⟩
        have hI7 := hI6.below hb7
        have hP7 := hP6.below hb7
        have hB7 := hB6.trans (hb7.mono hB6.size)
        have H7 := Hd.mk h7
        have HB7 := Hd.mk hb7
        have hs7 := hB7.size
        clear h7 hb7
        obtain ⟨hi, hz0, hz1, hz2⟩ := HI.out
        have hPb : P.length + 1 ≤ 100000 := by have := HS.out; have := HK.out; have := hN.out; omega
        have hs3 : W3.heap.size ≤ w7.heap.size := by have := HS.out; have := k5.size; have := HB6.out; have := HB7.out.size; omega
        go_wp2_with (at_builtin; refine wpList_append_own _ rfl _ _ 26 rfl W3.heap.size 31 i0 (.agg #[.string ⟨#[]⟩, .slice none 0 0, .slice none 0 0, .slice none 0 0, .slice none 0 0, .string ⟨#[]⟩]) 6 128 Tryd.underlying26' hi hz0 hz1 hz2 rfl (by decide) _ _ _ rfl (hP7.own.alloc _) ⟨w7.heap.size, 0, none⟩ 1 1 (Pc.cells ⟨n, some ⟨w6.heap.size, 0, none⟩, D, D.length⟩) rfl rfl ?c1 ?c2 ?c3 ?c4 ?c5 ?_)
        case c1 => intro j u hu; exact six_new rfl hu
        case c2 => intro u hu; simp [Pc.cells] at hu; rcases hu with rfl | rfl | rfl | rfl <;> rfl
        case c3 => unfold maxLen; omega
        case c4 => omega
        case c5 => simp; omega
        intro v' w8 hown1 hgrow _
        have hI8 := Hd.mk ((hI7.alloc _).grown hgrow W3.heap.size (fun k hk => (hP7.own.lt k hk).1) hlw hzw hbw)
        have hP8 := Hd.mk ((hP7.alloc _).add ⟨n, some ⟨w6.heap.size, 0, none⟩, D, D.length⟩ ((copy_bytes H7.out hD6.len).alloc _) (Nat.le_refl _) (fun ad e => by cases e; exact .inr ⟨_, _, (Below.heap_alloc _ _ _ (lt_of_heap H7.out)).trans H7.out⟩) hown1 hgrow)
        have hB8 := Hd.mk (Below.grown (hB7.alloc hs7 _) hgrow (by simp; omega) fun g hg => by have := (hP7.own.lt g hg).1; omega)
        have hS8 := Hd.mk hgrow.size
        clear hown1 hgrow hi hz0 hz1 hz2 hI7 hP7 hB7
        go_wp2
        go_roundg gk
        case measure => exact Nat.lt_succ_self _
        case rel => exact ⟨i + 1, p', s', L' ++ [(n, D)], P ++ [⟨n, some ⟨w6.heap.size, 0, none⟩, D, D.length⟩], by go_num, ⟨by have := HK.out; omega⟩, HC5, hI8, hP8, ⟨by rw [List.map_append, HT.out]; rfl⟩, hB8, ⟨by have := hS8.out; simp at this; omega, by rw [List.length_append, HS.out.2]; rfl⟩⟩
end Go.Proofs.YteonakpgenkhkaaDoor
