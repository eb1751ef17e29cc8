import Derived.Test.YtfcedenofbefcaaGreatDoorW5
namespace Go.Proofs.YtfcedenofbefcaaGreatDoor
open Go.RowKit
set_option linter.unusedVariables false
set_option linter.unusedSimpArgs false
theorem AttrV.In.low {x : AttrV} {w : World} (h : x.In w) : x.low w.heap.size := ⟨h.s2.i, h.s5.i⟩
theorem ItemV.In.low {x : ItemV} {w : World} (h : x.In w) : x.low w.heap.size := ⟨h.s1.i, h.s2.i, fun y hy => (h.b3.each y hy).low⟩
theorem tokens_calls {w : World} {html : Bool} (x : ItemV) (lo : Nat) (h : x.In w) (hlo : x.low lo) (hlw : lo ≤ w.heap.size) (hg : GoodItem html x.d) :
    Calls Tryz.prog 21 #[.agg #[.int .i64 x.kind, .slice x.A1 x.text.length x.c1, .slice x.A2 x.name.length x.c2, .slice x.A3 x.attrs.length x.c3]] w (TokPost lo (itemDue x.d) (itemT x.d) w) := by
  have hl := itemT_len hg
  rcases hg with ⟨hk, _⟩ | ⟨hk, _⟩ | ⟨hk, _⟩ | ⟨hk, _⟩ | ⟨hk, _, _, hga, _⟩ | ⟨hk, _, _, hga, _⟩ | ⟨hk, _⟩
  · exact tokens_text x lo h hlo hlw hk hl
  · exact tokens_comment x lo h hlo hlw hk hl
  · exact tokens_section x lo h hlo hlw hk hl
  · exact tokens_type x lo h hlo hlw hk hl
  · exact tokens_tag x lo h hlo hlw (hk.elim .inl fun e => .inr (.inl e)) hl hga
  · exact tokens_tag x lo h hlo hlw (.inr (.inr hk)) hl hga
  · exact tokens_end x lo h hlo hlw hk hl
/-- The source of an append, at any address. -/
def SrcA (w : World) (v : Value) (m : Nat) (news : List Value) : Prop :=
  (v = .slice none 0 0 ∧ m = 0 ∧ news = []) ∨ ∃ ad c, v = .slice (some ad) m c ∧ ∀ j u, news[j]? = some u → w.cell? (ad.add j) = some u
theorem Slc.src {w : World} {A : Option Addr} {T : List Int} {c : Nat} (h : Slc w A T c) : SrcA w (.slice A T.length c) T.length (T.map (Value.int .u8)) := by
  cases A with
  | none =>
    have hc := h.z rfl
    have hk := h.k
    obtain rfl : T = [] := List.eq_nil_of_length_eq_zero (by omega)
    subst hc
    exact .inl ⟨rfl, rfl, rfl⟩
  | some ad =>
    refine .inr ⟨ad, c, rfl, fun j u hu => ?_⟩
    have hj : j < T.length := by
      rcases Nat.lt_or_ge j T.length with h' | h'
      · exact h'
      · rw [List.getElem?_eq_none (by simpa using h')] at hu; cases hu
    obtain ⟨b, o, e, hc⟩ := h.b.cells (by omega)
    injection e with e
    subst e
    rw [bytes_at hj] at hu
    cases hu
    rw [addr_add]
    exact hc j hj
theorem Src.any {w : World} {v : Value} {m : Nat} {news : List Value} (h : Src w v m news) : SrcA w v m news := by
  rcases h with h | ⟨g, o, c, rfl, hc⟩
  · exact .inl h
  · exact .inr ⟨_, _, rfl, fun j u hu => by rw [addr_add]; exact hc j u hu⟩
/-- Where an append to an own row leaves it. -/
theorem append_far {P : Program} {w : World} (base : Nat) (t ty e : TypeId) (i : TypeInfo) (z : Value) (size bytes : Nat) (ht : P.underlying t = some (.slice e)) (hi : P.info? e = some i) (hz : i.zero = some z)
    (hsize : i.size = size) (hby : i.bytes = bytes) (hsz : 0 < size) (v : Value) (n : Nat) (xs : List Value) (hown : w.ownsRow base e size v n xs)
    (a : Addr) (m c : Nat) (news : List Value) (hl : news.length = m * size) (hnews : ∀ j u, news[j]? = some u → w.cell? (a.add j) = some u) (h1 : ∀ u ∈ news, u.oneCell' = true)
    (h63 : n + m ≤ maxLen) (hbytes : (n + m) * bytes ≤ 140737488355328) :
    ∃ v' w', (Builtin.append_ #[t, t] ty #[v, .slice (some a) m c]).run P w = .ok v' w' ∧ (v'.ownBlock = v.ownBlock ∨ v'.ownBlock = some w.heap.size) := by
  subst hsize
  subst hby
  have hsmall : n + m ≤ 9223372036854775807 := by simp only [maxLen] at h63; omega
  rcases hown.2 with ⟨rfl, rfl⟩ | ⟨g, cap, cur, rfl, hbg, hg, hnc, hcm, hcs, htake⟩
  · by_cases hm : m = 0
    · subst hm
      refine ⟨.slice none 0 0, w, ?_, .inl rfl⟩
      simp [Builtin.append_, run_underlying ht, sizeOf, typeInfo, hi, Builtin.lenOf, Builtin.firstCells, loadCells, loadCellsFrom]
    · have hr := run_append_nil (P := P) w t ty e i z ht hi hz a m c news hl hnews (by omega) (by omega) (by have hb := hbytes; simp only [Nat.zero_add] at hb; omega)
      exact ⟨_, _, hr, .inr rfl⟩
  · by_cases hroom : n + m ≤ cap
    · have hfit : n * i.size + news.length ≤ cur.size := by rw [hl, hcs, ← Nat.add_mul]; exact Nat.mul_le_mul_right _ hroom
      exact ⟨_, _, run_append_room (P := P) w t ty e i ht hi g n cap cur hg a m c news hl hnews h1 hroom hfit, .inl rfl⟩
    · have holds : ∀ j u, xs[j]? = some u → w.cell? ((⟨g, 0, none⟩ : Addr).add j) = some u := hown.cells (g := g) rfl
      have hr := run_append_grow (P := P) w t ty e i z ht hi hz ⟨g, 0, none⟩ n cap xs hown.1 holds a m c news hl hnews (by omega) (by omega) (growslice_fits (by omega) hbytes)
      exact ⟨_, _, hr, .inr rfl⟩
theorem wpList_far {w : World} {ops : Array Oper} {rest : List Oper} {o : Oper} {a : Act} {Q : Exit → Act → World → Prop} (hgd : o.guard = none) (s x : Operand) (t e : TypeId) (i : TypeInfo) (z : Value) (size bytes : Nat)
    (ho : o.op = .call { callee := .builtin .append, args := #[s, x], argTypes := #[t, t] }) (ht : Tryz.prog.underlying t = some (.slice e)) (hi : Tryz.prog.info? e = some i) (hz : i.zero = some z)
    (hsize : i.size = size) (hby : i.bytes = bytes) (hzs : z.cells.size = size) (hsz : 0 < size)
    (base : Nat) (v vx : Value) (n m : Nat) (xs news : List Value) (hs : a.eval s = v) (hx : a.eval x = vx) (hown : w.ownsRow base e size v n xs) (hsrc : SrcA w vx m news) (hl : news.length = m * size) (h1 : ∀ u ∈ news, u.oneCell' = true)
    (h63 : n + m ≤ maxLen) (hbytes : (n + m) * bytes ≤ 140737488355328) (hbase : base ≤ w.heap.size)
    (h : ∀ v' w', w'.ownsRow base e size v' (n + m) (xs ++ news) → w.grownBy w' v.ownBlock → (v'.ownBlock = v.ownBlock ∨ v'.ownBlock = some w.heap.size) → wpList Tryz.prog ops Q rest (a.put o.dst v') w') : wpList Tryz.prog ops Q (o :: rest) a w := by
  rcases hsrc with ⟨rfl, rfl, rfl⟩ | ⟨ad, c, rfl, hc⟩
  · exact wpList_append_own_none hgd s x t ho base e i size ht hi v n xs hs hown hx (h v w (by simpa using hown) ⟨rfl, rfl, rfl, Nat.le_refl _, fun _ _ _ => rfl⟩ (.inl rfl))
  · refine wpList_plain hgd fun K hK => ?_
    obtain ⟨v', w', hr, h2, h3, _⟩ := run_append_own (P := Tryz.prog) w base t o.type e i z size bytes ht hi hz hsize hby hzs hsz v n xs hown ad m c news hl hc h1 h63 hbytes hbase
    obtain ⟨v2, w2, hr2, hf⟩ := append_far (P := Tryz.prog) (w := w) base t o.type e i z size bytes ht hi hz hsize hby hsz v n xs hown ad m c news hl hc h1 h63 hbytes
    rw [hr] at hr2
    injection hr2 with e1 e2
    subst e1 e2
    unfold Oper.wp execOp
    simp only [ho, resolve, invoke, builtin, Sem.run_bind, Sem.run_pure, Result.andThen_ok, List.map_toArray, List.map_cons, List.map_nil, hs, hx, hr]
    exact hK _ _ (h v' w' h2 h3 hf)
/-- No byte of the pieces lies in the row of v. -/
def Off (P : List Pc) (r : Option Nat) : Prop := ∀ x ∈ P, (0 < x.D.length → ∀ ad, x.A = some ad → some ad.block ≠ r) ∧ (0 < x.T.length → ∀ ad, x.A2 = some ad → some ad.block ≠ r) ∧ (0 < x.V.length → ∀ ad, x.A4 = some ad → some ad.block ≠ r)
theorem Seg.grown {w w' : World} {lo : Nat} {A : Option Addr} {D : List Int} {c : Nat} {r : Option Nat} (h : Seg w lo A D c) (hg : w.grownBy w' r) (hA : 0 < D.length → ∀ ad, A = some ad → some ad.block ≠ r) : Seg w' lo A D c :=
  ⟨h.b.of_block0 fun h0 ad e hl => hg.block _ hl (hA h0 ad e), h.k, fun h0 ad e => by
    rcases h.f h0 ad e with hl | ⟨cs, f, hh⟩
    · exact .inl hl
    · exact .inr ⟨cs, f, (hg.block _ (lt_of_heap hh) (hA h0 ad e)).trans hh⟩⟩
theorem Pcs.grown {w w' : World} {lo base : Nat} {v : Value} {P : List Pc} {r : Option Nat} (h : Pcs w lo base v P) (hg : w.grownBy w' r) (hP : Off P r) (hv : v.ownBlock = none ∨ v.ownBlock ≠ r) : Pcs w' lo base v P :=
  ⟨h.own.kept hg hv, fun x hx => ⟨(h.dat x hx).d.grown hg (hP x hx).1, (h.dat x hx).t.grown hg (hP x hx).2.1, (h.dat x hx).v.grown hg (hP x hx).2.2⟩, h.lob⟩
theorem Pcs.adds {w w' : World} {lo base b2 : Nat} {v v' v2 : Value} {P P' : List Pc} (h : Pcs w lo base v P) (hx : Pcs w lo b2 v2 P')
    (ho : w'.ownsRow base 36 6 v' (P.length + P'.length) (P.flatMap Pc.cells ++ P'.flatMap Pc.cells)) (hg : w.grownBy w' v.ownBlock) : Pcs w' lo base v' (P ++ P') := by
  have hk : ∀ k, Firm w lo k → k < w.heap.size → w'.heap[k]? = w.heap[k]? := fun k hf hl => keep_grown h.own h.lob hg k hf hl
  refine ⟨by simpa using ho, fun y hy => ?_, h.lob⟩
  rcases List.mem_append.mp hy with hy | hy
  · exact (h.dat y hy).of_block hk
  · exact (hx.dat y hy).of_block hk
theorem own_ne {w : World} {b1 b2 t1 t2 z1 z2 n1 n2 : Nat} {v1 v2 : Value} {x1 x2 : List Value} (h1 : w.ownsRow b1 t1 z1 v1 n1 x1) (h2 : w.ownsRow b2 t2 z2 v2 n2 x2) (ht : t1 ≠ t2) : v1.ownBlock = none ∨ v1.ownBlock ≠ v2.ownBlock := by
  cases hv : v1.ownBlock with
  | none => exact .inl rfl
  | some k =>
    refine .inr fun e => ?_
    obtain ⟨_, c1, q1⟩ := own_block h1 hv
    obtain ⟨_, c2, q2⟩ := own_block h2 e.symm
    rw [q1] at q2
    simp only [Option.some.injEq, Obj.cells.injEq] at q2
    exact ht q2.2.1
theorem off_his {W : World} {b2 t z n lo : Nat} {v : Value} {xs : List Value} {P : List Pc} (h : His lo W.heap.size P) (ho : W.ownsRow b2 t z v n xs) (hb : lo ≤ b2) : Off P v.ownBlock := by
  have key : ∀ A T, Hi lo W.heap.size A T → 0 < T.length → ∀ ad, A = some ad → some ad.block ≠ v.ownBlock := fun A T hA h0 ad e q => by
    have h1 := ho.lt ad.block q.symm
    rcases hA h0 ad e with h' | h' <;> omega
  exact fun x hx => ⟨key _ _ (h x hx).1, key _ _ (h x hx).2.1, key _ _ (h x hx).2.2⟩
theorem Off.add {P P' : List Pc} {r : Option Nat} (h : Off P r) (h' : Off P' r) : Off (P ++ P') r := fun x hx => (List.mem_append.mp hx).elim (h x) (h' x)
/-- .. behind an append to the row: the same row or a new one. -/
theorem Off.far {w : World} {lo base : Nat} {u v v' : Value} {P : List Pc} (h : Off P v.ownBlock) (hP : Pcs w lo base u P) (hlo : lo ≤ w.heap.size) (hf : v'.ownBlock = v.ownBlock ∨ v'.ownBlock = some w.heap.size) : Off P v'.ownBlock := by
  rcases hf with hf | hf
  · rw [hf]; exact h
  · rw [hf]
    have key : ∀ A D c, Seg w lo A D c → 0 < D.length → ∀ ad, A = some ad → some ad.block ≠ some w.heap.size := fun A D c hs h0 ad e q => by
      injection q with q
      rcases hs.f h0 ad e with h' | ⟨cs, f, h'⟩
      · omega
      · have := lt_of_heap h'; omega
    exact fun x hx => ⟨key _ _ _ (hP.dat x hx).d, key _ _ _ (hP.dat x hx).t, key _ _ _ (hP.dat x hx).v⟩
theorem pcs_made {W : World} {g lo base : Nat} (hg : W.heap.size = g) (hb : base ≤ g) (hl : lo ≤ base) : Pcs (W.alloc (.cells #[] 36)) lo base (.slice (some ⟨g, 0, none⟩) 0 0) [] := by
  subst hg
  exact Pcs.nil hb hl
theorem doc_take {l : List ItemV} {k : Nat} {x : ItemV} (h : l[k]? = some x) : (l.take (k + 1)).map ItemV.d = (l.take k).map ItemV.d ++ [x.d] := by
  obtain ⟨hk, e⟩ := List.getElem?_eq_some_iff.mp h
  rw [List.take_succ_eq_append_getElem hk, e, List.map_append]
  rfl
theorem docT_app (l m : List ItemD) : docT (l ++ m) = docT l ++ docT m := by unfold docT; rw [List.flatMap_append]
theorem docDue_app (l m : List ItemD) : docDue (l ++ m) = docDue l ++ docDue m := by unfold docDue; rw [List.flatMap_append]
theorem docT_one (x : ItemD) : docT [x] = itemT x := by unfold docT; simp
theorem docDue_one (x : ItemD) : docDue [x] = itemDue x := by unfold docDue; simp
theorem docT_take_len (l : List ItemV) (k : Nat) : (docT ((l.take k).map ItemV.d)).length ≤ (docT (l.map ItemV.d)).length := by
  conv => rhs; rw [← List.take_append_drop k l, List.map_append, docT_app, List.length_append]
  omega
theorem docDue_take_len (l : List ItemV) (k : Nat) : (docDue ((l.take k).map ItemV.d)).length ≤ (docDue (l.map ItemV.d)).length := by
  conv => rhs; rw [← List.take_append_drop k l, List.map_append, docDue_app, List.length_append]
  omega
theorem due_len {html : Bool} {i : ItemD} (h : GoodItem html i) : (itemDue i).length ≤ 22 := by rw [due_told_len]; exact told_len h
theorem docDue_len {html : Bool} : ∀ (l : List ItemD), (∀ i ∈ l, GoodItem html i) → (docDue l).length ≤ l.length * 22
  | [], _ => Nat.le_refl _
  | i :: l, h => by
    show (itemDue i ++ docDue l).length ≤ _
    rw [List.length_append, List.length_cons]
    have := due_len (h i (by simp))
    have := docDue_len l fun x hx => h x (by simp [hx])
    omega
def DocPost (T : List Int) (D : List GTok) (w : World) (e : Ending) (w' : World) : Prop :=
  (∃ A c v P, e = .returned (.tuple #[.slice A T.length c, v]) ∧ Slc w' A T c ∧ Pcs w' w.heap.size w.heap.size v P ∧ P.map Pc.told = D) ∧ Below w.heap.size w w'
set_option maxHeartbeats 8000000 in
set_option maxRecDepth 100000 in
theorem Document_calls {w : World} {html : Bool} {A : Option Addr} {l : List ItemV} {cp : Nat} (h : ItemsAt w A l) (hg : GoodDoc html (l.map ItemV.d)) :
    Calls Tryz.prog 9 #[.slice A l.length cp] w (DocPost (docT (l.map ItemV.d)) (docDue (l.map ItemV.d)) w) := by
  obtain ⟨i0, hi, hz0, hz1, hz2⟩ := info_parts Tryz.info5
  obtain ⟨i6, hi6, hz6, hz61, hz62⟩ := info_parts Tryz.info36
  have HI := Hd.mk (And.intro hi (And.intro hz0 (And.intro hz1 hz2)))
  have HI6 := Hd.mk (And.intro hi6 (And.intro hz6 (And.intro hz61 hz62)))
  have HA := Hd.mk h
  have hlen := h.len
  have HG := Hd.mk (fun x (hx : x ∈ l) => (hg.1 x.d (List.mem_map_of_mem hx)).1)
  have HTl := Hd.mk (docT_len hg)
  have HDl : Hd ((docDue (l.map ItemV.d)).length ≤ 100000) := ⟨by
    have := docDue_len (l.map ItemV.d) fun i hi => (hg.1 i hi).1
    have := hg.2.1
    omega⟩
  clear h hg hi hz0 hz1 hz2 hi6 hz6 hz61 hz62
  go_enter Tryz.func9, Tryz.ntmps9
  go_wp2_with fail
  go_loopg [4, 5, 14] l.length (fun gk v4 v5 v14 w' => ∃ (k : Nat) (P : List Pc), v14 = .int .i64 k ∧ Hd (k + gk = l.length) ∧ Hd (w'.ownsRow w.heap.size 5 1 v4 (docT ((l.take k).map ItemV.d)).length ((docT ((l.take k).map ItemV.d)).map (Value.int .u8))) ∧ Hd (Pcs w' w.heap.size w.heap.size v5 P ∧ P.map Pc.told = docDue ((l.take k).map ItemV.d)) ∧ Hd (Off P v4.ownBlock) ∧ Hd (Below w.heap.size w w'))
  case atStart =>
    refine ⟨0, [], rfl, ⟨by omega⟩, ⟨World.ownsRow.alloc (World.ownsRow_made (e := 5) (size := 1) w #[] 0 (Nat.le_refl _) (by unfold maxLen; omega) rfl) _⟩, ⟨pcs_made (by simp) (by omega) (Nat.le_refl _), rfl⟩, ⟨fun x hx => by cases hx⟩, ⟨kp_alloc (kp_alloc (kp_refl w) _) _⟩⟩
  case round =>
    obtain ⟨k, P, rfl, HK, HO, HP, HOff, HB⟩ := hrel
    cases gk with
    | zero =>
      have hk : k = l.length := by have := HK.out; omega
      subst hk
      have ho := HO.out
      rw [List.take_length] at ho
      have HQ := Hd.mk (own_bytes ho (by have := HTl.out; omega))
      have HPd := HP.out.2
      rw [List.take_length] at HPd
      have HPd := Hd.mk HPd
      clear ho
      obtain ⟨_, A', c', rfl, hB, hc, hA, hN⟩ := HQ.out
      go_wp2_with fail
      go_ret2
      exact ⟨⟨A', c', _, P, rfl, ⟨hB, hc, hN⟩, HP.out.1, HPd.out⟩, HB.out⟩
    | succ gk =>
      have hlt : k < l.length := by have := HK.out; omega
      have hil : (k : Int) < (l.length : Int) := by omega
      obtain ⟨x, hx⟩ : ∃ x, l[k]? = some x := ⟨_, List.getElem?_eq_getElem hlt⟩
      obtain ⟨b, o, eA, g0, g1, g2, g3, hin⟩ := (HA.out.below HB.out).four k x hx
      have HX := Hd.mk hx
      have HLx := Hd.mk ((HA.out.each x (List.mem_of_getElem? hx)).low)
      have HGx := Hd.mk (HG.out x (List.mem_of_getElem? hx))
      rw [eA]
      have HIx := Hd.mk hin
      clear hin hx
      go_upto_region 5 with fail
      have HBW := Hd.mk (And.intro (kp_alloc (kp_refl wr) x.box) (kp_alloc HB.out x.box))
      unfold ItemV.box at HBW
      clear g0 g1 g2 g3
      go_wp2_with fail
      refine (tokens_calls (html := html) x w.heap.size (HIx.out.below HBW.out.1) HLx.out (alloc_le HBW.out.2) HGx.out).mono ?_
      rintro e w1 ⟨⟨v, P', A', c', rfl, hP', hT', hS', hH'⟩, hB'⟩
      have HB1 := Hd.mk (kp_call HBW.out.2 hB')
      have HP' := Hd.mk (And.intro hP' (And.intro hT' (And.intro hS' hH')))
      have HO1 := Hd.mk (own_below (own_below HO.out HBW.out.1) hB')
      have HP1 := Hd.mk ((HP.out.1.grow HBW.out.1).grow hB')
      have HO0 := Hd.mk (own_below HO.out HBW.out.1)
      have HOfP := Hd.mk (off_his hH' HO0.out (Nat.le_refl _))
      have HT1 : Hd (docT ((l.take (k + 1)).map ItemV.d) = docT ((l.take k).map ItemV.d) ++ itemT x.d) := ⟨by rw [doc_take HX.out, docT_app, docT_one]⟩
      have HD1 : Hd (docDue ((l.take (k + 1)).map ItemV.d) = docDue ((l.take k).map ItemV.d) ++ itemDue x.d) := ⟨by rw [doc_take HX.out, docDue_app, docDue_one]⟩
      have hSl : (docT ((l.take k).map ItemV.d)).length + (itemT x.d).length ≤ 420000 := by
        have h1 := docT_take_len l (k + 1)
        have h2 := HTl.out
        rw [HT1.out, List.length_append] at h1
        omega
      have hPl : P.length + P'.length ≤ 100000 := by
        have h1 := docDue_take_len l (k + 1)
        have h2 := HDl.out
        rw [HD1.out, List.length_append, ← HP.out.2, ← hT', List.length_map, List.length_map] at h1
        omega
      generalize hS : docT ((l.take k).map ItemV.d) = S at HO HO1 HO0 hSl HT1
      generalize hTI : itemT x.d = TI at HP' hSl HT1 ⊢
      have HU : Hd (∀ u ∈ TI.map (Value.int .u8), u.oneCell' = true) := ⟨fun u hu => by
        obtain ⟨z, _, rfl⟩ := List.mem_map.mp hu
        rfl⟩
      have HZ1 : Hd (w.heap.size ≤ w1.heap.size) := ⟨alloc_le HB1.out⟩
      have HL := Hd.mk (And.intro hSl hPl)
      obtain ⟨hi, hz0, hz1, hz2⟩ := HI.out
      clear hP' hT' hS' hH' hB' hS hTI hSl hPl HO
      go_wp2_with (at_builtin; refine wpList_far rfl _ _ 25 5 i0 (.int .u8 0) 1 1 rfl Tryz.underlying25 hi hz0 hz1 hz2 rfl (by decide) w.heap.size _ _ S.length TI.length (S.map (Value.int .u8)) (TI.map (Value.int .u8)) rfl rfl HO1.out HP'.out.2.2.1.src (by simp) HU.out (by unfold maxLen; have := HL.out.1; omega) (by have := HL.out.1; omega) HZ1.out ?_)
      intro v' w2 hown1 hgrow1 hfar1
      have HP2 := Hd.mk (HP1.out.grown hgrow1 HOff.out (own_ne HP1.out.own HO1.out (by decide)))
      have HP2' := Hd.mk (HP'.out.1.grown hgrow1 HOfP.out (own_ne HP'.out.1.own HO1.out (by decide)))
      have HO2 := Hd.mk hown1
      have HOf2 := Hd.mk ((HOff.out.far HP1.out HZ1.out hfar1).add (HOfP.out.far HP'.out.1 HZ1.out hfar1))
      have HB2 := Hd.mk (kp_grown HB1.out hgrow1 fun k' hk => (HO1.out.lt k' hk).1)
      have HZ2 : Hd (w.heap.size ≤ w2.heap.size) := ⟨alloc_le HB2.out⟩
      clear hown1 hgrow1 hfar1 hi hz0 hz1 hz2
      obtain ⟨hi6, hz6, hz61, hz62⟩ := HI6.out
      go_wp2_with (at_builtin; refine wpList_far rfl _ _ 26 36 i6 _ 6 128 rfl Tryz.underlying26s hi6 hz6 hz61 hz62 rfl (by decide) w.heap.size _ _ P.length P'.length (P.flatMap Pc.cells) (P'.flatMap Pc.cells) rfl rfl HP2.out.own HP2'.out.src.any (cells_len P') (cells_one P') (by unfold maxLen; have := HL.out.2; omega) (by have := HL.out.2; omega) HZ2.out ?_)
      intro v2 w3 hown2 hgrow2 hfar2
      have HP3 := Hd.mk (HP2.out.adds HP2'.out hown2 hgrow2)
      have HO3 := Hd.mk (HO2.out.kept hgrow2 (own_ne HO2.out HP2.out.own (by decide)))
      have HB3 := Hd.mk (kp_grown HB2.out hgrow2 fun k' hk => (HP2.out.own.lt k' hk).1)
      clear hown2 hgrow2 hfar2 hi6 hz6 hz61 hz62
      go_wp2_with fail
      rw [← eA]
      go_roundg gk
      case measure => exact Nat.lt_succ_self _
      case rel => exact ⟨k + 1, P ++ P', by go_num, ⟨by have := HK.out; omega⟩, ⟨by rw [HT1.out, List.length_append, List.map_append]; exact HO3.out⟩, ⟨HP3.out, by rw [List.map_append, HP.out.2, HP'.out.2.1, HD1.out]⟩, HOf2, HB3⟩
end Go.Proofs.YtfcedenofbefcaaGreatDoor
