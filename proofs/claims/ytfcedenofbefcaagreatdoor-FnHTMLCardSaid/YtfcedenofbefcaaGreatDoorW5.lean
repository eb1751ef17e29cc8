import Derived.Test.YtfcedenofbefcaaGreatDoorW4
namespace Go.Proofs.YtfcedenofbefcaaGreatDoor
open Go.RowKit
set_option linter.unusedVariables false
set_option linter.unusedSimpArgs false
attribute [local go_sem ↓] Go.wp_at_zero Go.wp_at_succ
theorem Pcs.widen {w : World} {lo base bas : Nat} {v : Value} {P : List Pc} (h : Pcs w lo base v P) (hb : bas ≤ base) (hl : lo ≤ bas) : Pcs w lo bas v P := by
  refine ⟨?_, h.dat, hl⟩
  obtain ⟨hx, h⟩ := h.own
  refine ⟨hx, ?_⟩
  rcases h with h | ⟨g, cap, cur, rfl, hg, h⟩
  · exact .inl h
  · exact .inr ⟨g, cap, cur, rfl, Nat.le_trans hb hg, h⟩
theorem own_alloc' {w : World} {base n : Nat} {v : Value} {xs : List Value} (h : w.ownsRow base 36 6 v n xs) (o : Obj) : (w.alloc o).ownsRow base 36 6 v n xs := h.alloc o
theorem Byt.alloc' {w : World} {lo : Nat} {A : Option Addr} {T : List Int} {c : Nat} (h : Byt w lo A T c) (o : Obj) : Byt (w.alloc o) lo A T c := h.kp (kp_alloc (kp_refl w) o)
theorem Byt.lay' {w : World} {lo : Nat} {A : Option Addr} {T : List Int} {c : Nat} (h : Byt w lo A T c) (s : ByteArray) : Byt (World.lay w s) lo A T c := h.kp (kp_lay (kp_refl w) s)
theorem Byt.drew' {w : World} {lo : Nat} {A : Option Addr} {T : List Int} {c : Nat} (h : Byt w lo A T c) : Byt w.drew lo A T c := h.kp (kp_drew (kp_refl w))
theorem Src.lay {w : World} {v : Value} {m : Nat} {news : List Value} (h : Src w v m news) (s : ByteArray) : Src (World.lay w s) v m news := h.kp (kp_lay (kp_refl w) s)
theorem heap_at {w : World} {g : Nat} {o : Obj} (hg : w.heap.size = g) : (w.alloc o).heap[g]? = some o := by subst hg; exact heap_new _ _
theorem heap_up {w W : World} {g : Nat} {o : Obj} (h : w.heap[g]? = some o) (k : Kp w W) : W.heap[g]? = some o := (Below.block (show Below _ _ _ from k) g (lt_of_heap h)).trans h
theorem heap_up_alloc {w : World} {g : Nat} {o : Obj} (h : w.heap[g]? = some o) (o' : Obj) : (w.alloc o').heap[g]? = some o := heap_up h (kp_alloc (kp_refl w) o')
theorem heap_up_lay {w : World} {g : Nat} {o : Obj} (h : w.heap[g]? = some o) (s : ByteArray) : (World.lay w s).heap[g]? = some o := heap_up h (kp_lay (kp_refl w) s)
/-- The text's cell of an item's box, in a world that holds more than W0. -/
def XS (x : ItemV) (g : Nat) (W0 W : World) : Prop := W.cell? ⟨g, 1, none⟩ = some (.slice x.A1 x.text.length x.c1) ∧ Hd (Kp W0 W)
theorem XS.k {x : ItemV} {g : Nat} {W0 W : World} (h : XS x g W0 W) : Kp W0 W := h.2.out
theorem XS.of {x : ItemV} {g : Nat} {W0 W : World} (m : W0.cell? ⟨g, 1, none⟩ = some (.slice x.A1 x.text.length x.c1)) (k : Kp W0 W) : XS x g W0 W :=
  ⟨(Below.cell (show Below _ _ _ from k) (p := ⟨g, 1, none⟩) (World.block_lt_of_cell? _ _ m)).trans m, ⟨k⟩⟩
theorem keepH {W W' : World} {base n : Nat} {v : Value} {xs : List Value} (hown : W.ownsRow base 36 6 v n xs) (hg : W.grownBy W' v.ownBlock) {g : Nat} {cs : Array Value} {f : Nat × Nat} (h : W.heap[g]? = some (.cells cs 25 f)) : W'.heap[g]? = some (.cells cs 25 f) :=
  (hg.block g (lt_of_heap h) fun e => by
    obtain ⟨_, cs', h2⟩ := own_block hown e.symm
    rw [h] at h2
    simp at h2).trans h
theorem step_last {ops : Array Oper} {o : Oper} {a : Act} {w wr : World} {K : Act → World → Prop} {Q : Exit → Act → World → Prop} {E : Prop} {lo base g n1 c1 : Nat} {v : Value} {P : List Pc} {kk TT : List Int} {A1 : Option Addr} {f : Nat × Nat} (hg : o.guard = none) (s x d : Operand)
    (hop : o.op = Op.call { callee := Callee.builtin Builtin.append, args := #[s, x], argTypes := #[26, 26] }) (hs : a.eval s = v) (hx : a.eval x = .slice (some ⟨g, 0, none⟩) 1 1) (hd : a.eval d = .slice A1 n1 c1)
    (kW : Kp wr w) (HP : Pcs wr lo base v P) (hblk : w.heap[g]? = some (.cells #[.string (bstr kk), .slice A1 TT.length c1, .slice none 0 0, .slice none 0 0, .slice none 0 0, .string ⟨#[]⟩] 36 f)) (hok : Byt w lo A1 TT c1) (hb : P.length + 1 ≤ 1000000000) (hbase : base ≤ wr.heap.size) (hhi : ∀ ad, A1 = some ad → wr.heap.size ≤ ad.block)
    (hK : ∀ v' w', His lo wr.heap.size [⟨kk, A1, TT, c1, none, [], 0, none, [], 0⟩] → Pcs w' lo base v' (P ++ [⟨kk, A1, TT, c1, none, [], 0, none, [], 0⟩]) → (∀ (A : Option Addr) (T : List Int) (c : Nat), Byt w lo A T c → Byt w' lo A T c) →
      (∀ (g : Nat) (cs : Array Value), w.heap[g]? = some (.cells cs 25 (0, 0)) → w'.heap[g]? = some (.cells cs 25 (0, 0))) → (∀ W0, Kp W0 w → W0.heap.size ≤ base → Kp W0 w') → K (a.put o.dst v') w') : if Region.wanted o (yielded ops a.tmps) = true then Oper.wp Tryz.prog o a w K Q else E := by
  have hPw := HP.grow kW
  refine step_app (v := v) (vx := .slice (some ⟨g, 0, none⟩) 1 1) hg s x hop base P.length 1 (P.flatMap Pc.cells) (Pc.cells ⟨kk, A1, TT, c1, none, [], 0, none, [], 0⟩) hs hx hPw.own (.inr ⟨g, 0, 1, rfl, fun j u hu => ?_⟩) rfl (pc_one _) hb (Nat.le_trans hbase (alloc_le kW)) ?_
  · rw [cell_of_block hblk, Nat.zero_add, ← Array.getElem?_toList]
    exact hu
  · intro v' w' hown hgrow
    exact hK v' w' (His.one (fun _ ad e => .inr (hhi ad e)) (hi_none _ _ _) (hi_none _ _ _)) (hPw.add _ ⟨hok.g, Seg.nil _ _, Seg.nil _ _⟩ hown hgrow) (fun A T c h => h.grown hPw.own hPw.lob hgrow) (fun g cs h => keepH hPw.own hgrow h) fun W0 k hW => kp_grown k hgrow fun k' hk => Nat.le_trans hW (own_block hPw.own hk).1
theorem slc_start (w : World) (k : Int) : Slc (World.lay w (bstr (startT k))) (some ⟨w.heap.size, 0, none⟩) (startT k) (layc w (bstr (startT k))) := by
  have := slc_lay w (bstr (startT k)) (size_start k)
  rwa [strB_start] at this
theorem byt_last (w : World) (lo : Nat) (k : Int) : Byt (World.lay w (bstr (lastT k))) lo (some ⟨w.heap.size, 0, none⟩) (lastT k) (layc w (bstr (lastT k))) := by
  have := Byt.lay w lo (bstr (lastT k)) (size_last k)
  rwa [strB_last] at this
theorem byt_last' (w : World) (lo : Nat) (k : Int) {g : Nat} (hg : w.heap.size = g) : Byt (World.lay w (bstr (lastT k))) lo (some ⟨g, 0, none⟩) (lastT k) (layc w (bstr (lastT k))) := by
  subst hg
  exact byt_last w lo k
theorem attrsT_take {l : List AttrV} {k : Nat} {y : AttrV} (h : l[k]? = some y) : attrsT ((l.take (k + 1)).map AttrV.d) = attrsT ((l.take k).map AttrV.d) ++ (y.d.before ++ attrT y.d) := by
  obtain ⟨hk, e⟩ := List.getElem?_eq_some_iff.mp h
  rw [List.take_succ_eq_append_getElem hk, e, List.map_append]
  unfold attrsT
  simp
theorem dues_take {l : List AttrV} {k : Nat} {y : AttrV} (h : l[k]? = some y) : ((l.take (k + 1)).map AttrV.d).map attrDue = ((l.take k).map AttrV.d).map attrDue ++ [attrDue y.d] := by
  obtain ⟨hk, e⟩ := List.getElem?_eq_some_iff.mp h
  rw [List.take_succ_eq_append_getElem hk, e]
  simp
theorem attrsT_take_len (l : List AttrV) (k : Nat) : (attrsT ((l.take k).map AttrV.d)).length ≤ (attrsT (l.map AttrV.d)).length := by
  conv => rhs; rw [← List.take_append_drop k l, List.map_append]
  unfold attrsT
  rw [List.flatMap_append, List.length_append]
  omega
set_option maxHeartbeats 16000000 in
set_option maxRecDepth 100000 in
theorem tokens_tag {w : World} {html : Bool} (x : ItemV) (lo : Nat) (h : x.In w) (hlo : x.low lo) (hlw : lo ≤ w.heap.size) (hk : x.kind = 4 ∨ x.kind = 5 ∨ x.kind = 6) (hl : (itemT x.d).length ≤ 7000) (hg : GoodAttrs html (x.attrs.map AttrV.d)) :
    Calls Tryz.prog 21 #[.agg #[.int .i64 x.kind, .slice x.A1 x.text.length x.c1, .slice x.A2 x.name.length x.c2, .slice x.A3 x.attrs.length x.c3]] w (TokPost lo (itemDue x.d) (itemT x.d) w) := by
  have hcs := run_lay
  have n0 : (x.kind == 0) = false := by rcases hk with e | e | e <;> rw [e] <;> rfl
  have n1 : (x.kind == 1) = false := by rcases hk with e | e | e <;> rw [e] <;> rfl
  have n2 : (x.kind == 2) = false := by rcases hk with e | e | e <;> rw [e] <;> rfl
  have n3 : (x.kind == 3) = false := by rcases hk with e | e | e <;> rw [e] <;> rfl
  have n7 : (x.kind == 7) = false := by rcases hk with e | e | e <;> rw [e] <;> rfl
  have hD : itemDue x.d = (startK x.kind, startT x.kind ++ x.name, x.name, []) :: ((x.attrs.map AttrV.d).map attrDue ++ [(lastK x.kind, lastT x.kind, [], [])]) := by
    unfold itemDue
    rw [if_neg (show x.d.kind ≠ 0 from beq_eq_false_iff_ne.mp n0), if_neg (show x.d.kind ≠ 1 from beq_eq_false_iff_ne.mp n1), if_neg (show x.d.kind ≠ 2 from beq_eq_false_iff_ne.mp n2), if_neg (show x.d.kind ≠ 3 from beq_eq_false_iff_ne.mp n3), if_neg (show x.d.kind ≠ 7 from beq_eq_false_iff_ne.mp n7)]
    rfl
  have hT : itemT x.d = startT x.kind ++ (x.name ++ (attrsT (x.attrs.map AttrV.d) ++ (x.text ++ lastT x.kind))) := by
    unfold itemT
    rw [if_neg (show x.d.kind ≠ 0 from beq_eq_false_iff_ne.mp n0), if_neg (show x.d.kind ≠ 1 from beq_eq_false_iff_ne.mp n1), if_neg (show x.d.kind ≠ 2 from beq_eq_false_iff_ne.mp n2), if_neg (show x.d.kind ≠ 3 from beq_eq_false_iff_ne.mp n3), if_neg (show x.d.kind ≠ 7 from beq_eq_false_iff_ne.mp n7)]
    rfl
  have HTL := Hd.mk (show (startT x.kind ++ (x.name ++ (attrsT (x.attrs.map AttrV.d) ++ (x.text ++ lastT x.kind)))).length ≤ 7000 by rw [← hT]; exact hl)
  have HD := Hd.mk hD
  have HT := Hd.mk hT
  generalize itemDue x.d = DD at HD ⊢
  generalize itemT x.d = TT at HT ⊢
  have HS := Hd.mk h
  have HLo := Hd.mk hlo
  have HLw := Hd.mk hlw
  have HGd := Hd.mk hg
  have HKd := Hd.mk hk
  clear hD hT h hlo hlw hl hg hk
  go_enter Tryz.func21, Tryz.ntmps21
  go_upto_block 1 with fail
  have HW0 : Hd (Kp (w.alloc x.box) (w.alloc x.box)) := ⟨kp_refl _⟩
  have hsz : (w.alloc x.box).heap.size = w.heap.size + 1 := by simp
  unfold ItemV.box at HW0 hsz
  go_cut [8, 9, 10, 11] (fun v8 v9 v10 v11 w' => v8 = .string (bstr (startT x.kind)) ∧ v9 = .string (bstr (startK x.kind)) ∧ v10 = .string (bstr (lastK x.kind)) ∧ v11 = .string (bstr (lastT x.kind)) ∧ w.alloc (.cells #[.int .i64 x.kind, .slice x.A1 x.text.length x.c1, .slice x.A2 x.name.length x.c2, .slice x.A3 x.attrs.length x.c3] 43) = w')
  case first =>
    rcases HKd.out with e | e | e
    · have d5 : (x.kind == 5) = false := by rw [e]; rfl
      have d6 : (x.kind == 6) = false := by rw [e]; rfl
      have HE := Hd.mk e
      clear e
      go_wp2_with fail
      go_meet
      case rel => exact ⟨by rw [HE.out]; rfl, by rw [HE.out]; rfl, by rw [HE.out]; rfl, by rw [HE.out]; rfl, rfl⟩
    · have d5 : (x.kind == 5) = true := by rw [e]; rfl
      have HE := Hd.mk e
      clear e
      go_wp2_with fail
      go_meet
      case rel => exact ⟨by rw [HE.out]; rfl, by rw [HE.out]; rfl, by rw [HE.out]; rfl, by rw [HE.out]; rfl, rfl⟩
    · have d5 : (x.kind == 5) = false := by rw [e]; rfl
      have d6 : (x.kind == 6) = true := by rw [e]; rfl
      have HE := Hd.mk e
      clear e
      go_wp2_with fail
      go_meet
      case rel => exact ⟨by rw [HE.out]; rfl, by rw [HE.out]; rfl, by rw [HE.out]; rfl, by rw [HE.out]; rfl, rfl⟩
  case rest =>
    obtain ⟨rfl, rfl, rfl, rfl, rfl⟩ := hcut
    clear n0 n1 n2 n3 n7
    generalize hW0 : w.alloc (.cells #[.int .i64 x.kind, .slice x.A1 x.text.length x.c1, .slice x.A2 x.name.length x.c2, .slice x.A3 x.attrs.length x.c3] 43) = W0 at HW0 hsz ⊢
    have m1 : W0.cell? ⟨w.heap.size, 1, none⟩ = some (.slice x.A1 x.text.length x.c1) := by subst hW0; exact new_cell rfl
    have m2 : W0.cell? ⟨w.heap.size, 2, none⟩ = some (.slice x.A2 x.name.length x.c2) := by subst hW0; exact new_cell rfl
    have m3 : W0.cell? ⟨w.heap.size, 3, none⟩ = some (.slice x.A3 x.attrs.length x.c3) := by subst hW0; exact new_cell rfl
    have HKw : Hd (Kp w W0) := ⟨by subst hW0; exact kp_alloc (kp_refl w) _⟩
    clear hW0 HW0
    have HZ := Hd.mk hsz
    have l2 : (World.lay W0 (bstr (startT x.kind))).cell? ⟨w.heap.size, 2, none⟩ = some (.slice x.A2 x.name.length x.c2) := (Below.cell (show Below _ _ _ from kp_lay (kp_refl W0) _) (p := ⟨w.heap.size, 2, none⟩) (by show w.heap.size < W0.heap.size; omega)).trans m2
    have hzl : (bstr (startT x.kind)).size = (startT x.kind).length := by rw [← strB_len, strB_start]
    have HM := Hd.mk (And.intro m1 (And.intro m2 m3))
    clear m1 m2 m3 hsz
    go_wp2_with fail
    refine (join_2' (T1 := startT x.kind) (T2 := x.name) (S := startT x.kind ++ x.name) rfl rfl rfl ?g1 ?g2 rfl ?g3).mono ?_
    case g1 => exact slc_start W0 x.kind
    case g2 => exact (HS.out.s2.kp HKw.out).kp (kp_lay (kp_refl _) _)
    case g3 => have := HTL.out; simp only [List.length_append] at this ⊢; omega
    rintro e w1 ⟨⟨A12, c12, rfl, hS12, hG12, hF12⟩, hB1⟩
    have HH12 : Hd (Hi lo w.heap.size A12 (startT x.kind ++ x.name)) := ⟨hi_of (kp_alloc (kp_lay HKw.out _) _) hF12⟩
    clear hF12
    have hk1 : Kp W0 w1 := kp_call (kp_alloc (kp_lay (kp_refl W0) _) _) hB1

    generalize hS0 : startT x.kind ++ x.name = S0 at hS12 hG12 HH12 ⊢
    have HS0 := Hd.mk hS0
    have HB12 : Hd (Byt w1 lo A12 S0 c12) := ⟨⟨hS12, hG12 lo⟩⟩
    have p2 : w1.cell? ⟨w.heap.size, 2, none⟩ = some (.slice x.A2 x.name.length x.c2) := (Below.cell (show Below _ _ _ from hk1) (p := ⟨w.heap.size, 2, none⟩) (by show w.heap.size < W0.heap.size; have := HZ.out; omega)).trans HM.out.2.1
    have p3 : ∀ o, (w1.alloc o).cell? ⟨w.heap.size, 3, none⟩ = some (.slice x.A3 x.attrs.length x.c3) := fun o => (Below.cell (show Below _ _ _ from kp_alloc hk1 o) (p := ⟨w.heap.size, 3, none⟩) (by show w.heap.size < W0.heap.size; have := HZ.out; omega)).trans HM.out.2.2
    have HK1 := Hd.mk hk1
    have HA := Hd.mk (HS.out.b3.below HKw.out)
    have HLA := Hd.mk HLo.out.2.2
    have hla := HS.out.b3.len
    have HP1 : Hd (∀ o, o = (.cells (Pc.cells ⟨startK x.kind, A12, S0, c12, x.A2, x.name, x.c2, none, [], 0⟩).toArray 36) → Pcs (w1.alloc o) lo (w.heap.size + 1) (.slice (some ⟨w1.heap.size, 0, none⟩) 1 1) [⟨startK x.kind, A12, S0, c12, x.A2, x.name, x.c2, none, [], 0⟩]) := ⟨fun o e => by
      subst e
      exact pcs_one _ ⟨HB12.out.g, ((HS.out.s2.kp HKw.out).kp hk1).seg HLo.out.2.1, Seg.nil _ _⟩ (by have := alloc_le hk1; have := HZ.out; omega) (by have := HLw.out; omega)⟩
    clear hS12 hG12 hB1 hk1 hzl l2 hS0
    go_wp2_with fail
    go_loopg [12, 13, 111] x.attrs.length (fun gk v12 v13 v111 w' => ∃ (k : Nat) (A : Option Addr) (S : List Int) (c : Nat) (P : List Pc), v12 = .slice A S.length c ∧ v111 = .int .i64 k ∧ Hd (k + gk = x.attrs.length) ∧ Hd (Byt w' lo A S c ∧ S = S0 ++ attrsT ((x.attrs.take k).map AttrV.d)) ∧ Hd (Pcs w' lo (w.heap.size + 1) v13 P ∧ P.map Pc.told = (startK x.kind, S0, x.name, []) :: ((x.attrs.take k).map AttrV.d).map attrDue) ∧ Hd (Kp W0 w') ∧ Hd (Hi lo w.heap.size A S ∧ His lo w.heap.size P))
    case atStart => exact ⟨0, A12, S0, c12, _, rfl, rfl, ⟨by omega⟩, ⟨HB12.out.kp (kp_alloc (kp_refl _) _), by simp [attrsT]⟩, ⟨HP1.out _ rfl, rfl⟩, ⟨kp_alloc HK1.out _⟩, ⟨HH12.out, His.one HH12.out (Hi.low HLo.out.2.1) (hi_none _ _ _)⟩⟩
    case round =>
      obtain ⟨k, A, S, c, P, rfl, rfl, HK, HB, HP, HKr, HIP⟩ := hrel
      clear HB12 HP1 HK1 p2 p3
      cases gk with
      | zero =>
        have hk : k = x.attrs.length := by have := HK.out; omega
        subst hk
        have hz2 : (bstr (lastT x.kind)).size = (lastT x.kind).length := by rw [← strB_len, strB_last]
        have hSe : S = S0 ++ attrsT (x.attrs.map AttrV.d) := by have := HB.out.2; rwa [List.take_length] at this
        have hTo : P.map Pc.told = (startK x.kind, S0, x.name, []) :: (x.attrs.map AttrV.d).map attrDue := by have := HP.out.2; rwa [List.take_length] at this
        have hTT : S ++ (x.text ++ lastT x.kind) = TT := by rw [HT.out, hSe, ← HS0.out]; simp only [List.append_assoc]
        have HTT := Hd.mk hTT
        have HTo := Hd.mk hTo
        have HL30 : Hd (TT.length ≤ 1000000) := ⟨by rw [HT.out]; have := HTL.out; omega⟩
        have hPl2 : P.length + 1 ≤ 1000000000 := by
          have := congrArg List.length hTo
          simp only [List.length_map, List.length_cons] at this
          have := HGd.out.2
          simp only [List.length_map] at this
          omega
        have hbz2 : ∀ W, Kp W0 W → w.heap.size + 1 ≤ W.heap.size := fun W k => by have := alloc_le k; have := HZ.out; omega
        have HBZ := Hd.mk hbz2
        have hlob := HP.out.1.lob
        have hrow : Hd (∀ (W : World) (n : Nat) (xs : List Value), W.ownsRow (w.heap.size + 1) 36 6 u13 n xs → ∀ k, u13.ownBlock = some k → W0.heap.size ≤ k) := ⟨fun W n xs h k hk => by have := (own_block h hk).1; have := HZ.out; omega⟩
        clear hTT hTo hSe hbz2
        go_upto_region 30 with fail
        have HX0 : Hd (XS x w.heap.size W0 wr) := ⟨XS.of HM.out.1 HKr.out⟩
        obtain ⟨m1, HKW⟩ := HX0.out
        have hbse : w.heap.size + 1 ≤ wr.heap.size := HBZ.out _ HKr.out
        have hbz0 : W0.heap.size ≤ w.heap.size + 1 := by have := HZ.out; omega
        refine wp_region_held_drew (S := (fun W => W.cell? ⟨w.heap.size, 1, none⟩ = some (.slice x.A1 x.text.length x.c1) ∧ Hd (Kp W0 W))) (by kernel_rfl) ?_ (fun hHeld => ?_)
        · (try dsimp only); (first | exact XS.of HM.out.1 (kp_drew HKr.out) | exact XS.of HM.out.1 (kp_alloc (XS.k (x := x) (by assumption)) _) | exact XS.of HM.out.1 (kp_lay (XS.k (x := x) (by assumption)) _) | exact XS.of HM.out.1 (kp_call (XS.k (x := x) (by assumption)) (by assumption)) | exact XS.of HM.out.1 (hKk _ (XS.k (x := x) (by assumption)) hbz0))
        refine wpAnyH_take (i := 0) (oi := { dst := some 133, op := Op.move (Operand.tmp 13), type := 26, pos := "markup.go:180", after := #[], guard := none }) (v := ?_) rfl (by kernel_rfl) (by kernel_rfl) (by kernel_rfl) (fun _ _ _ h => h) (Or.inl ⟨by rfl, ?_⟩) (by assumption) ?_
        rotate_left
        · (intro w hSw; (try dsimp only at hSw); go_simp <;> with_reducible rfl)
        try simp only [Act.put, List.setIfInBounds_toArray, List.set_cons_zero, List.set_cons_succ]
        refine wpAnyH_take (i := 1) (oi := { dst := some 134, op := Op.move (Operand.tmp 10), type := 9, pos := "markup.go:180", after := #[], guard := none }) (v := ?_) rfl (by kernel_rfl) (by kernel_rfl) (by kernel_rfl) (fun _ _ _ h => h) (Or.inl ⟨by rfl, ?_⟩) (by assumption) ?_
        rotate_left
        · (intro w hSw; (try dsimp only at hSw); go_simp <;> with_reducible rfl)
        try simp only [Act.put, List.setIfInBounds_toArray, List.set_cons_zero, List.set_cons_succ]
        refine wpAnyH_take (i := 2) (oi := { dst := some 135, op := Op.move (Operand.tmp 11), type := 9, pos := "markup.go:180", after := #[], guard := none }) (v := ?_) rfl (by kernel_rfl) (by kernel_rfl) (by kernel_rfl) (fun _ _ _ h => h) (Or.inl ⟨by rfl, ?_⟩) (by assumption) ?_
        rotate_left
        · (intro w hSw; (try dsimp only at hSw); go_simp <;> with_reducible rfl)
        try simp only [Act.put, List.setIfInBounds_toArray, List.set_cons_zero, List.set_cons_succ]
        refine wpAnyH_take (i := 7) (oi := { dst := some 140, op := Op.move (Operand.tmp 12), type := 25, pos := "markup.go:180", after := #[], guard := none }) (v := ?_) rfl (by kernel_rfl) (by kernel_rfl) (by kernel_rfl) (fun _ _ _ h => h) (Or.inl ⟨by rfl, ?_⟩) (by assumption) ?_
        rotate_left
        · (intro w hSw; (try dsimp only at hSw); go_simp <;> with_reducible rfl)
        try simp only [Act.put, List.setIfInBounds_toArray, List.set_cons_zero, List.set_cons_succ]
        refine wpAnyH_take (i := 8) (oi := { dst := some 141, op := Op.fieldAddr 43 (Operand.tmp 1) 1, type := 0, pos := "markup.go:180", after := #[], guard := none }) (v := ?_) rfl (by kernel_rfl) (by kernel_rfl) (by kernel_rfl) (fun _ _ _ h => h) (Or.inl ⟨by rfl, ?_⟩) (by assumption) ?_
        rotate_left
        · (intro w hSw; (try dsimp only at hSw); go_simp <;> with_reducible rfl)
        try simp only [Act.put, List.setIfInBounds_toArray, List.set_cons_zero, List.set_cons_succ]
        refine wpAnyH_take (i := 9) (oi := { dst := some 142, op := Op.load 25 (Operand.tmp 141), type := 25, pos := "markup.go:180", after := #[{ on := 8, ground := Ground.data }], guard := none }) (v := ?_) rfl (by kernel_rfl) (by kernel_rfl) (by kernel_rfl) (fun _ _ _ h => h) (Or.inl ⟨by rfl, ?_⟩) (by assumption) ?_
        rotate_left
        · (intro w hSw; (try dsimp only at hSw); go_simp <;> with_reducible rfl)
        try simp only [Act.put, List.setIfInBounds_toArray, List.set_cons_zero, List.set_cons_succ]
        refine wpAnyH_take (i := 10) (oi := { dst := some 143, op := Op.move (Operand.tmp 11), type := 9, pos := "markup.go:180", after := #[], guard := none }) (v := ?_) rfl (by kernel_rfl) (by kernel_rfl) (by kernel_rfl) (fun _ _ _ h => h) (Or.inl ⟨by rfl, ?_⟩) (by assumption) ?_
        rotate_left
        · (intro w hSw; (try dsimp only at hSw); go_simp <;> with_reducible rfl)
        try simp only [Act.put, List.setIfInBounds_toArray, List.set_cons_zero, List.set_cons_succ]
        refine wpAnyH_ready (rs := [3, 11]) (by kernel_rfl) (by simp) ?_
        refine AllReadyH.cons (o := { dst := some 136, op := Op.convert 9 25 (Operand.tmp 135), type := 25, pos := "markup.go:180", after := #[{ on := 2, ground := Ground.data }], guard := none }) rfl (fun K hK => ?_) ?_
        ·
          go_simp
          refine hK.out _ _ ?_ (fun hHeld1 => ?_)
          · (try dsimp only); (first | exact XS.of HM.out.1 (kp_drew HKr.out) | exact XS.of HM.out.1 (kp_alloc (XS.k (x := x) (by assumption)) _) | exact XS.of HM.out.1 (kp_lay (XS.k (x := x) (by assumption)) _) | exact XS.of HM.out.1 (kp_call (XS.k (x := x) (by assumption)) (by assumption)) | exact XS.of HM.out.1 (hKk _ (XS.k (x := x) (by assumption)) hbz0))
          clear hK K
          clear hHeld
          try simp only [Act.put, List.setIfInBounds_toArray, List.set_cons_zero, List.set_cons_succ]
          refine wpAnyH_take (i := 4) (oi := { dst := some 137, op := Op.build 36 #[(0, Operand.tmp 134), (1, Operand.tmp 136)], type := 36, pos := "markup.go:180", after := #[{ on := 1, ground := Ground.data }, { on := 3, ground := Ground.data }], guard := none }) (v := ?_) rfl (by kernel_rfl) (by kernel_rfl) (by kernel_rfl) (fun _ _ _ h => h) (Or.inl ⟨by rfl, ?_⟩) (by assumption) ?_
          rotate_left
          · (intro w hSw; (try dsimp only at hSw); go_simp <;> with_reducible rfl)
          try simp only [Act.put, List.setIfInBounds_toArray, List.set_cons_zero, List.set_cons_succ]
          refine wpAnyH_ready (rs := [5, 11]) (by kernel_rfl) (by simp) ?_
          refine AllReadyH.cons (o := { dst := some 138, op := Op.buildSlice 26 1 #[(0, Operand.tmp 137)], type := 26, pos := "markup.go:180", after := #[{ on := 4, ground := Ground.data }], guard := none }) rfl (fun K hK => ?_) ?_
          ·
            go_simp
            refine hK.out _ _ ?_ (fun hHeld2 => ?_)
            · (try dsimp only); (first | exact XS.of HM.out.1 (kp_drew HKr.out) | exact XS.of HM.out.1 (kp_alloc (XS.k (x := x) (by assumption)) _) | exact XS.of HM.out.1 (kp_lay (XS.k (x := x) (by assumption)) _) | exact XS.of HM.out.1 (kp_call (XS.k (x := x) (by assumption)) (by assumption)) | exact XS.of HM.out.1 (hKk _ (XS.k (x := x) (by assumption)) hbz0))
            clear hK K
            clear hHeld1
            try simp only [Act.put, List.setIfInBounds_toArray, List.set_cons_zero, List.set_cons_succ]
            refine wpAnyH_ready (rs := [6, 11]) (by kernel_rfl) (by simp) ?_
            refine AllReadyH.cons (o := { dst := some 139, op := Op.call { callee := Callee.builtin Builtin.append, args := #[Operand.tmp 133, Operand.tmp 138], argTypes := #[26, 26] }, type := 26, pos := "markup.go:180", after := #[{ on := 0, ground := Ground.data }, { on := 5, ground := Ground.data }], guard := none }) rfl (fun K hK => ?_) ?_
            ·
              (refine step_last (kk := lastK x.kind) (TT := lastT x.kind) (v := u13) (by rfl) (.tmp 133) (.tmp 138) (.tmp 136) (by rfl) (by rfl) (by rfl) (by rfl) (by repeat (first | exact kp_refl wr | with_reducible apply kp_alloc | with_reducible apply kp_lay | with_reducible apply kp_drew)) HP.out.1 (by first | (with_reducible refine heap_at ?_; first | rfl | (simp; done) | (simp [lay_size]; done)) | (with_reducible refine heap_up_lay ?_ _; (with_reducible refine heap_at ?_; first | rfl | (simp; done) | (simp [lay_size]; done))) | (with_reducible refine heap_up_alloc (heap_up_lay ?_ _) _; (with_reducible refine heap_at ?_; first | rfl | (simp; done) | (simp [lay_size]; done))) | (with_reducible refine heap_up_alloc ?_ _; (with_reducible refine heap_at ?_; first | rfl | (simp; done) | (simp [lay_size]; done)))) (by repeat (first | (with_reducible refine byt_last' _ _ _ ?_; first | rfl | (simp; done) | (simp [lay_size]; done)) | with_reducible apply Byt.alloc' | with_reducible apply Byt.lay' | with_reducible apply Byt.drew')) hPl2 hbse (by intro ad e; cases e; first | exact Nat.le_refl _ | (simp; done) | (simp; omega) | (simp [lay_size]; done) | (simp [lay_size]; omega)) ?_; intro v' w7 hHi hPc hKeep hKeepH hKk)
              refine hK.out _ _ ?_ (fun hHeld3 => ?_)
              · (try dsimp only); (first | exact XS.of HM.out.1 (kp_drew HKr.out) | exact XS.of HM.out.1 (kp_alloc (XS.k (x := x) (by assumption)) _) | exact XS.of HM.out.1 (kp_lay (XS.k (x := x) (by assumption)) _) | exact XS.of HM.out.1 (kp_call (XS.k (x := x) (by assumption)) (by assumption)) | exact XS.of HM.out.1 (hKk _ (XS.k (x := x) (by assumption)) hbz0))
              clear hK K
              clear hHeld2
              try simp only [Act.put, List.setIfInBounds_toArray, List.set_cons_zero, List.set_cons_succ]
              refine wpAnyH_ready (rs := [11]) (by kernel_rfl) (by simp) ?_
              refine AllReadyH.cons (o := { dst := some 144, op := Op.convert 9 25 (Operand.tmp 143), type := 25, pos := "markup.go:180", after := #[{ on := 10, ground := Ground.data }], guard := none }) rfl (fun K hK => ?_) ?_
              ·
                go_simp
                refine hK.out _ _ ?_ (fun hHeld4 => ?_)
                · (try dsimp only); (first | exact XS.of HM.out.1 (kp_drew HKr.out) | exact XS.of HM.out.1 (kp_alloc (XS.k (x := x) (by assumption)) _) | exact XS.of HM.out.1 (kp_lay (XS.k (x := x) (by assumption)) _) | exact XS.of HM.out.1 (kp_call (XS.k (x := x) (by assumption)) (by assumption)) | exact XS.of HM.out.1 (hKk _ (XS.k (x := x) (by assumption)) hbz0))
                clear hK K
                clear hHeld3
                try simp only [Act.put, List.setIfInBounds_toArray, List.set_cons_zero, List.set_cons_succ]
                refine wpAnyH_ready (rs := [12]) (by kernel_rfl) (by simp) ?_
                refine AllReadyH.cons (o := { dst := some 145, op := Op.buildSlice 74 3 #[(0, Operand.tmp 140), (1, Operand.tmp 142), (2, Operand.tmp 144)], type := 74, pos := "markup.go:180", after := #[{ on := 7, ground := Ground.data }, { on := 9, ground := Ground.data }, { on := 11, ground := Ground.data }], guard := none }) rfl (fun K hK => ?_) ?_
                ·
                  go_simp
                  refine hK.out _ _ ?_ (fun hHeld5 => ?_)
                  · (try dsimp only); (first | exact XS.of HM.out.1 (kp_drew HKr.out) | exact XS.of HM.out.1 (kp_alloc (XS.k (x := x) (by assumption)) _) | exact XS.of HM.out.1 (kp_lay (XS.k (x := x) (by assumption)) _) | exact XS.of HM.out.1 (kp_call (XS.k (x := x) (by assumption)) (by assumption)) | exact XS.of HM.out.1 (hKk _ (XS.k (x := x) (by assumption)) hbz0))
                  clear hK K
                  clear hHeld4
                  try simp only [Act.put, List.setIfInBounds_toArray, List.set_cons_zero, List.set_cons_succ]
                  refine wpAnyH_ready (rs := [13]) (by kernel_rfl) (by simp) ?_
                  refine AllReadyH.cons (o := { dst := some 146, op := Op.call { callee := Callee.value (Operand.func 49), args := #[Operand.tmp 145], argTypes := #[74] }, type := 25, pos := "markup.go:180", after := #[{ on := 12, ground := Ground.data }, { on := 6, ground := Ground.chain }], guard := none }) rfl (fun K hK => ?_) ?_
                  ·
                    (go_simp; go_at_call 49; refine (join_3 (T1 := S) (T2 := x.text) (T3 := lastT x.kind) (by first | (with_reducible refine heap_at ?_; first | rfl | (simp; done) | (simp [lay_size]; done)) | (with_reducible refine hKeepH _ _ ?_; first | (with_reducible refine heap_at ?_; first | rfl | (simp; done) | (simp [lay_size]; done)) | (with_reducible refine heap_up_alloc ?_ _; (with_reducible refine heap_at ?_; first | rfl | (simp; done) | (simp [lay_size]; done))) | (with_reducible refine heap_up_lay ?_ _; (with_reducible refine heap_at ?_; first | rfl | (simp; done) | (simp [lay_size]; done))) | (with_reducible refine heap_up_alloc (heap_up_lay ?_ _) _; (with_reducible refine heap_at ?_; first | rfl | (simp; done) | (simp [lay_size]; done))))) (Byt.s (by repeat (first | with_reducible exact HB.out.1 | with_reducible refine hKeep _ _ _ ?_ | with_reducible apply Byt.alloc' | with_reducible apply Byt.lay' | with_reducible apply Byt.drew'))) ((HS.out.s1.kp HKw.out).kp (XS.k (x := x) (by assumption))) (Byt.s (by first | with_reducible exact Byt.alloc' (byt_last w7 lo x.kind) _ | skip; repeat (first | (with_reducible refine byt_last' _ _ _ ?_; first | rfl | (simp; done) | (simp [lay_size]; done)) | with_reducible refine hKeep _ _ _ ?_ | with_reducible apply Byt.alloc' | with_reducible apply Byt.lay' | with_reducible apply Byt.drew'))) HTT.out HL30.out).mono ?_; rintro e w8 ⟨⟨A9, c9, rfl, hS9, hG9, hF9⟩, hB9⟩; dsimp only)
                    refine hK.out _ _ ?_ (fun hHeld6 => ?_)
                    · (try dsimp only); (first | exact XS.of HM.out.1 (kp_drew HKr.out) | exact XS.of HM.out.1 (kp_alloc (XS.k (x := x) (by assumption)) _) | exact XS.of HM.out.1 (kp_lay (XS.k (x := x) (by assumption)) _) | exact XS.of HM.out.1 (kp_call (XS.k (x := x) (by assumption)) (by assumption)) | exact XS.of HM.out.1 (hKk _ (XS.k (x := x) (by assumption)) hbz0))
                    clear hK K
                    clear hHeld5
                    try simp only [Act.put, List.setIfInBounds_toArray, List.set_cons_zero, List.set_cons_succ]
                    refine wpAnyH_take (i := 14) (oi := { dst := some 2, op := Op.assign (Operand.tmp 139), type := 26, pos := "markup.go:180", after := #[{ on := 6, ground := Ground.data }, { on := 13, ground := Ground.chain }, { on := 0, ground := Ground.phase }, { on := 1, ground := Ground.phase }, { on := 2, ground := Ground.phase }, { on := 3, ground := Ground.phase }, { on := 4, ground := Ground.phase }, { on := 5, ground := Ground.phase }, { on := 6, ground := Ground.phase }, { on := 7, ground := Ground.textOnly Departure.lateStores }, { on := 8, ground := Ground.textOnly Departure.lateStores }, { on := 9, ground := Ground.textOnly Departure.lateStores }, { on := 10, ground := Ground.textOnly Departure.lateStores }, { on := 11, ground := Ground.textOnly Departure.lateStores }, { on := 12, ground := Ground.textOnly Departure.lateStores }, { on := 13, ground := Ground.textOnly Departure.lateStoresUnsure }], guard := none }) (v := ?_) rfl (by kernel_rfl) (by kernel_rfl) (by kernel_rfl) (fun _ _ _ h => h) (Or.inl ⟨by rfl, ?_⟩) (by assumption) ?_
                    rotate_left
                    · (intro w hSw; (try dsimp only at hSw); go_simp <;> with_reducible rfl)
                    try simp only [Act.put, List.setIfInBounds_toArray, List.set_cons_zero, List.set_cons_succ]
                    refine wpAnyH_take (i := 15) (oi := { dst := some 3, op := Op.assign (Operand.tmp 146), type := 25, pos := "markup.go:180", after := #[{ on := 13, ground := Ground.data }, { on := 14, ground := Ground.chain }, { on := 0, ground := Ground.phase }, { on := 1, ground := Ground.phase }, { on := 2, ground := Ground.phase }, { on := 3, ground := Ground.phase }, { on := 4, ground := Ground.phase }, { on := 5, ground := Ground.phase }, { on := 6, ground := Ground.phase }, { on := 7, ground := Ground.phase }, { on := 8, ground := Ground.phase }, { on := 9, ground := Ground.phase }, { on := 10, ground := Ground.phase }, { on := 11, ground := Ground.phase }, { on := 12, ground := Ground.phase }, { on := 13, ground := Ground.phase }, { on := 14, ground := Ground.phase }], guard := none }) (v := ?_) rfl (by kernel_rfl) (by kernel_rfl) (by kernel_rfl) (fun _ _ _ h => h) (Or.inl ⟨by rfl, ?_⟩) (by assumption) ?_
                    rotate_left
                    · (intro w hSw; (try dsimp only at hSw); go_simp <;> with_reducible rfl)
                    try simp only [Act.put, List.setIfInBounds_toArray, List.set_cons_zero, List.set_cons_succ]
                    refine wpAnyH_done (by kernel_rfl) ?_ _
                    have HFin : Hd (Pcs w8 lo (w.heap.size + 1) v' (P ++ [⟨lastK x.kind, _, lastT x.kind, _, none, [], 0, none, [], 0⟩]) ∧ Slc w8 A9 TT c9 ∧ Kp w w8) :=
                      ⟨Pcs.below (by first | with_reducible exact hPc | with_reducible exact hPc.alloc _ | with_reducible exact (hPc.grow (kp_lay (kp_refl _) _)).alloc _) hB9, hS9, kp_trans HKw.out (XS.k (x := x) (by assumption))⟩
                    have HTo2 := Hd.mk HTo.out
                    have HHf : Hd (His lo w.heap.size (P ++ [⟨lastK x.kind, _, lastT x.kind, _, none, [], 0, none, [], 0⟩])) := ⟨HIP.out.2.add fun y hy => by
                      obtain ⟨q1, q2, q3⟩ := hHi y hy
                      have hq : w.heap.size ≤ wr.heap.size := by omega
                      exact ⟨q1.mono hq, q2.mono hq, q3.mono hq⟩⟩
                    clear hHi hS9 hG9 hB9 hPc hKeep hKeepH hKk m1
                    go_wp2_with fail
                    go_ret2
                    exact ⟨⟨_, _, A9, c9, rfl, HFin.out.1.widen (Nat.le_succ _) HLw.out, by rw [List.map_append, HTo2.out, HD.out, ← HS0.out]; rfl, HFin.out.2.1, HHf.out⟩, HFin.out.2.2⟩
                  exact AllReadyH.nil
                exact AllReadyH.nil
              exact AllReadyH.nil
            refine AllReadyH.cons (o := { dst := some 144, op := Op.convert 9 25 (Operand.tmp 143), type := 25, pos := "markup.go:180", after := #[{ on := 10, ground := Ground.data }], guard := none }) rfl (fun K hK => ?_) ?_
            ·
              go_simp
              refine hK.out _ _ ?_ (fun hHeld3 => ?_)
              · (try dsimp only); (first | exact XS.of HM.out.1 (kp_drew HKr.out) | exact XS.of HM.out.1 (kp_alloc (XS.k (x := x) (by assumption)) _) | exact XS.of HM.out.1 (kp_lay (XS.k (x := x) (by assumption)) _) | exact XS.of HM.out.1 (kp_call (XS.k (x := x) (by assumption)) (by assumption)) | exact XS.of HM.out.1 (hKk _ (XS.k (x := x) (by assumption)) hbz0))
              clear hK K
              clear hHeld2
              try simp only [Act.put, List.setIfInBounds_toArray, List.set_cons_zero, List.set_cons_succ]
              refine wpAnyH_ready (rs := [6, 12]) (by kernel_rfl) (by simp) ?_
              refine AllReadyH.cons (o := { dst := some 139, op := Op.call { callee := Callee.builtin Builtin.append, args := #[Operand.tmp 133, Operand.tmp 138], argTypes := #[26, 26] }, type := 26, pos := "markup.go:180", after := #[{ on := 0, ground := Ground.data }, { on := 5, ground := Ground.data }], guard := none }) rfl (fun K hK => ?_) ?_
              ·
                (refine step_last (kk := lastK x.kind) (TT := lastT x.kind) (v := u13) (by rfl) (.tmp 133) (.tmp 138) (.tmp 136) (by rfl) (by rfl) (by rfl) (by rfl) (by repeat (first | exact kp_refl wr | with_reducible apply kp_alloc | with_reducible apply kp_lay | with_reducible apply kp_drew)) HP.out.1 (by first | (with_reducible refine heap_at ?_; first | rfl | (simp; done) | (simp [lay_size]; done)) | (with_reducible refine heap_up_lay ?_ _; (with_reducible refine heap_at ?_; first | rfl | (simp; done) | (simp [lay_size]; done))) | (with_reducible refine heap_up_alloc (heap_up_lay ?_ _) _; (with_reducible refine heap_at ?_; first | rfl | (simp; done) | (simp [lay_size]; done))) | (with_reducible refine heap_up_alloc ?_ _; (with_reducible refine heap_at ?_; first | rfl | (simp; done) | (simp [lay_size]; done)))) (by repeat (first | (with_reducible refine byt_last' _ _ _ ?_; first | rfl | (simp; done) | (simp [lay_size]; done)) | with_reducible apply Byt.alloc' | with_reducible apply Byt.lay' | with_reducible apply Byt.drew')) hPl2 hbse (by intro ad e; cases e; first | exact Nat.le_refl _ | (simp; done) | (simp; omega) | (simp [lay_size]; done) | (simp [lay_size]; omega)) ?_; intro v' w7 hHi hPc hKeep hKeepH hKk)
                refine hK.out _ _ ?_ (fun hHeld4 => ?_)
                · (try dsimp only); (first | exact XS.of HM.out.1 (kp_drew HKr.out) | exact XS.of HM.out.1 (kp_alloc (XS.k (x := x) (by assumption)) _) | exact XS.of HM.out.1 (kp_lay (XS.k (x := x) (by assumption)) _) | exact XS.of HM.out.1 (kp_call (XS.k (x := x) (by assumption)) (by assumption)) | exact XS.of HM.out.1 (hKk _ (XS.k (x := x) (by assumption)) hbz0))
                clear hK K
                clear hHeld3
                try simp only [Act.put, List.setIfInBounds_toArray, List.set_cons_zero, List.set_cons_succ]
                refine wpAnyH_ready (rs := [12]) (by kernel_rfl) (by simp) ?_
                refine AllReadyH.cons (o := { dst := some 145, op := Op.buildSlice 74 3 #[(0, Operand.tmp 140), (1, Operand.tmp 142), (2, Operand.tmp 144)], type := 74, pos := "markup.go:180", after := #[{ on := 7, ground := Ground.data }, { on := 9, ground := Ground.data }, { on := 11, ground := Ground.data }], guard := none }) rfl (fun K hK => ?_) ?_
                ·
                  go_simp
                  refine hK.out _ _ ?_ (fun hHeld5 => ?_)
                  · (try dsimp only); (first | exact XS.of HM.out.1 (kp_drew HKr.out) | exact XS.of HM.out.1 (kp_alloc (XS.k (x := x) (by assumption)) _) | exact XS.of HM.out.1 (kp_lay (XS.k (x := x) (by assumption)) _) | exact XS.of HM.out.1 (kp_call (XS.k (x := x) (by assumption)) (by assumption)) | exact XS.of HM.out.1 (hKk _ (XS.k (x := x) (by assumption)) hbz0))
                  clear hK K
                  clear hHeld4
                  try simp only [Act.put, List.setIfInBounds_toArray, List.set_cons_zero, List.set_cons_succ]
                  refine wpAnyH_ready (rs := [13]) (by kernel_rfl) (by simp) ?_
                  refine AllReadyH.cons (o := { dst := some 146, op := Op.call { callee := Callee.value (Operand.func 49), args := #[Operand.tmp 145], argTypes := #[74] }, type := 25, pos := "markup.go:180", after := #[{ on := 12, ground := Ground.data }, { on := 6, ground := Ground.chain }], guard := none }) rfl (fun K hK => ?_) ?_
                  ·
                    (go_simp; go_at_call 49; refine (join_3 (T1 := S) (T2 := x.text) (T3 := lastT x.kind) (by first | (with_reducible refine heap_at ?_; first | rfl | (simp; done) | (simp [lay_size]; done)) | (with_reducible refine hKeepH _ _ ?_; first | (with_reducible refine heap_at ?_; first | rfl | (simp; done) | (simp [lay_size]; done)) | (with_reducible refine heap_up_alloc ?_ _; (with_reducible refine heap_at ?_; first | rfl | (simp; done) | (simp [lay_size]; done))) | (with_reducible refine heap_up_lay ?_ _; (with_reducible refine heap_at ?_; first | rfl | (simp; done) | (simp [lay_size]; done))) | (with_reducible refine heap_up_alloc (heap_up_lay ?_ _) _; (with_reducible refine heap_at ?_; first | rfl | (simp; done) | (simp [lay_size]; done))))) (Byt.s (by repeat (first | with_reducible exact HB.out.1 | with_reducible refine hKeep _ _ _ ?_ | with_reducible apply Byt.alloc' | with_reducible apply Byt.lay' | with_reducible apply Byt.drew'))) ((HS.out.s1.kp HKw.out).kp (XS.k (x := x) (by assumption))) (Byt.s (by first | with_reducible exact Byt.alloc' (byt_last w7 lo x.kind) _ | skip; repeat (first | (with_reducible refine byt_last' _ _ _ ?_; first | rfl | (simp; done) | (simp [lay_size]; done)) | with_reducible refine hKeep _ _ _ ?_ | with_reducible apply Byt.alloc' | with_reducible apply Byt.lay' | with_reducible apply Byt.drew'))) HTT.out HL30.out).mono ?_; rintro e w8 ⟨⟨A9, c9, rfl, hS9, hG9, hF9⟩, hB9⟩; dsimp only)
                    refine hK.out _ _ ?_ (fun hHeld6 => ?_)
                    · (try dsimp only); (first | exact XS.of HM.out.1 (kp_drew HKr.out) | exact XS.of HM.out.1 (kp_alloc (XS.k (x := x) (by assumption)) _) | exact XS.of HM.out.1 (kp_lay (XS.k (x := x) (by assumption)) _) | exact XS.of HM.out.1 (kp_call (XS.k (x := x) (by assumption)) (by assumption)) | exact XS.of HM.out.1 (hKk _ (XS.k (x := x) (by assumption)) hbz0))
                    clear hK K
                    clear hHeld5
                    try simp only [Act.put, List.setIfInBounds_toArray, List.set_cons_zero, List.set_cons_succ]
                    refine wpAnyH_take (i := 14) (oi := { dst := some 2, op := Op.assign (Operand.tmp 139), type := 26, pos := "markup.go:180", after := #[{ on := 6, ground := Ground.data }, { on := 13, ground := Ground.chain }, { on := 0, ground := Ground.phase }, { on := 1, ground := Ground.phase }, { on := 2, ground := Ground.phase }, { on := 3, ground := Ground.phase }, { on := 4, ground := Ground.phase }, { on := 5, ground := Ground.phase }, { on := 6, ground := Ground.phase }, { on := 7, ground := Ground.textOnly Departure.lateStores }, { on := 8, ground := Ground.textOnly Departure.lateStores }, { on := 9, ground := Ground.textOnly Departure.lateStores }, { on := 10, ground := Ground.textOnly Departure.lateStores }, { on := 11, ground := Ground.textOnly Departure.lateStores }, { on := 12, ground := Ground.textOnly Departure.lateStores }, { on := 13, ground := Ground.textOnly Departure.lateStoresUnsure }], guard := none }) (v := ?_) rfl (by kernel_rfl) (by kernel_rfl) (by kernel_rfl) (fun _ _ _ h => h) (Or.inl ⟨by rfl, ?_⟩) (by assumption) ?_
                    rotate_left
                    · (intro w hSw; (try dsimp only at hSw); go_simp <;> with_reducible rfl)
                    try simp only [Act.put, List.setIfInBounds_toArray, List.set_cons_zero, List.set_cons_succ]
                    refine wpAnyH_take (i := 15) (oi := { dst := some 3, op := Op.assign (Operand.tmp 146), type := 25, pos := "markup.go:180", after := #[{ on := 13, ground := Ground.data }, { on := 14, ground := Ground.chain }, { on := 0, ground := Ground.phase }, { on := 1, ground := Ground.phase }, { on := 2, ground := Ground.phase }, { on := 3, ground := Ground.phase }, { on := 4, ground := Ground.phase }, { on := 5, ground := Ground.phase }, { on := 6, ground := Ground.phase }, { on := 7, ground := Ground.phase }, { on := 8, ground := Ground.phase }, { on := 9, ground := Ground.phase }, { on := 10, ground := Ground.phase }, { on := 11, ground := Ground.phase }, { on := 12, ground := Ground.phase }, { on := 13, ground := Ground.phase }, { on := 14, ground := Ground.phase }], guard := none }) (v := ?_) rfl (by kernel_rfl) (by kernel_rfl) (by kernel_rfl) (fun _ _ _ h => h) (Or.inl ⟨by rfl, ?_⟩) (by assumption) ?_
                    rotate_left
                    · (intro w hSw; (try dsimp only at hSw); go_simp <;> with_reducible rfl)
                    try simp only [Act.put, List.setIfInBounds_toArray, List.set_cons_zero, List.set_cons_succ]
                    refine wpAnyH_done (by kernel_rfl) ?_ _
                    have HFin : Hd (Pcs w8 lo (w.heap.size + 1) v' (P ++ [⟨lastK x.kind, _, lastT x.kind, _, none, [], 0, none, [], 0⟩]) ∧ Slc w8 A9 TT c9 ∧ Kp w w8) :=
                      ⟨Pcs.below (by first | with_reducible exact hPc | with_reducible exact hPc.alloc _ | with_reducible exact (hPc.grow (kp_lay (kp_refl _) _)).alloc _) hB9, hS9, kp_trans HKw.out (XS.k (x := x) (by assumption))⟩
                    have HTo2 := Hd.mk HTo.out
                    have HHf : Hd (His lo w.heap.size (P ++ [⟨lastK x.kind, _, lastT x.kind, _, none, [], 0, none, [], 0⟩])) := ⟨HIP.out.2.add fun y hy => by
                      obtain ⟨q1, q2, q3⟩ := hHi y hy
                      have hq : w.heap.size ≤ wr.heap.size := by omega
                      exact ⟨q1.mono hq, q2.mono hq, q3.mono hq⟩⟩
                    clear hHi hS9 hG9 hB9 hPc hKeep hKeepH hKk m1
                    go_wp2_with fail
                    go_ret2
                    exact ⟨⟨_, _, A9, c9, rfl, HFin.out.1.widen (Nat.le_succ _) HLw.out, by rw [List.map_append, HTo2.out, HD.out, ← HS0.out]; rfl, HFin.out.2.1, HHf.out⟩, HFin.out.2.2⟩
                  exact AllReadyH.nil
                exact AllReadyH.nil
              refine AllReadyH.cons (o := { dst := some 145, op := Op.buildSlice 74 3 #[(0, Operand.tmp 140), (1, Operand.tmp 142), (2, Operand.tmp 144)], type := 74, pos := "markup.go:180", after := #[{ on := 7, ground := Ground.data }, { on := 9, ground := Ground.data }, { on := 11, ground := Ground.data }], guard := none }) rfl (fun K hK => ?_) ?_
              ·
                go_simp
                refine hK.out _ _ ?_ (fun hHeld4 => ?_)
                · (try dsimp only); (first | exact XS.of HM.out.1 (kp_drew HKr.out) | exact XS.of HM.out.1 (kp_alloc (XS.k (x := x) (by assumption)) _) | exact XS.of HM.out.1 (kp_lay (XS.k (x := x) (by assumption)) _) | exact XS.of HM.out.1 (kp_call (XS.k (x := x) (by assumption)) (by assumption)) | exact XS.of HM.out.1 (hKk _ (XS.k (x := x) (by assumption)) hbz0))
                clear hK K
                clear hHeld3
                try simp only [Act.put, List.setIfInBounds_toArray, List.set_cons_zero, List.set_cons_succ]
                refine wpAnyH_ready (rs := [6]) (by kernel_rfl) (by simp) ?_
                refine AllReadyH.cons (o := { dst := some 139, op := Op.call { callee := Callee.builtin Builtin.append, args := #[Operand.tmp 133, Operand.tmp 138], argTypes := #[26, 26] }, type := 26, pos := "markup.go:180", after := #[{ on := 0, ground := Ground.data }, { on := 5, ground := Ground.data }], guard := none }) rfl (fun K hK => ?_) ?_
                ·
                  (refine step_last (kk := lastK x.kind) (TT := lastT x.kind) (v := u13) (by rfl) (.tmp 133) (.tmp 138) (.tmp 136) (by rfl) (by rfl) (by rfl) (by rfl) (by repeat (first | exact kp_refl wr | with_reducible apply kp_alloc | with_reducible apply kp_lay | with_reducible apply kp_drew)) HP.out.1 (by first | (with_reducible refine heap_at ?_; first | rfl | (simp; done) | (simp [lay_size]; done)) | (with_reducible refine heap_up_lay ?_ _; (with_reducible refine heap_at ?_; first | rfl | (simp; done) | (simp [lay_size]; done))) | (with_reducible refine heap_up_alloc (heap_up_lay ?_ _) _; (with_reducible refine heap_at ?_; first | rfl | (simp; done) | (simp [lay_size]; done))) | (with_reducible refine heap_up_alloc ?_ _; (with_reducible refine heap_at ?_; first | rfl | (simp; done) | (simp [lay_size]; done)))) (by repeat (first | (with_reducible refine byt_last' _ _ _ ?_; first | rfl | (simp; done) | (simp [lay_size]; done)) | with_reducible apply Byt.alloc' | with_reducible apply Byt.lay' | with_reducible apply Byt.drew')) hPl2 hbse (by intro ad e; cases e; first | exact Nat.le_refl _ | (simp; done) | (simp; omega) | (simp [lay_size]; done) | (simp [lay_size]; omega)) ?_; intro v' w7 hHi hPc hKeep hKeepH hKk)
                  refine hK.out _ _ ?_ (fun hHeld5 => ?_)
                  · (try dsimp only); (first | exact XS.of HM.out.1 (kp_drew HKr.out) | exact XS.of HM.out.1 (kp_alloc (XS.k (x := x) (by assumption)) _) | exact XS.of HM.out.1 (kp_lay (XS.k (x := x) (by assumption)) _) | exact XS.of HM.out.1 (kp_call (XS.k (x := x) (by assumption)) (by assumption)) | exact XS.of HM.out.1 (hKk _ (XS.k (x := x) (by assumption)) hbz0))
                  clear hK K
                  clear hHeld4
                  try simp only [Act.put, List.setIfInBounds_toArray, List.set_cons_zero, List.set_cons_succ]
                  refine wpAnyH_ready (rs := [13]) (by kernel_rfl) (by simp) ?_
                  refine AllReadyH.cons (o := { dst := some 146, op := Op.call { callee := Callee.value (Operand.func 49), args := #[Operand.tmp 145], argTypes := #[74] }, type := 25, pos := "markup.go:180", after := #[{ on := 12, ground := Ground.data }, { on := 6, ground := Ground.chain }], guard := none }) rfl (fun K hK => ?_) ?_
                  ·
                    (go_simp; go_at_call 49; refine (join_3 (T1 := S) (T2 := x.text) (T3 := lastT x.kind) (by first | (with_reducible refine heap_at ?_; first | rfl | (simp; done) | (simp [lay_size]; done)) | (with_reducible refine hKeepH _ _ ?_; first | (with_reducible refine heap_at ?_; first | rfl | (simp; done) | (simp [lay_size]; done)) | (with_reducible refine heap_up_alloc ?_ _; (with_reducible refine heap_at ?_; first | rfl | (simp; done) | (simp [lay_size]; done))) | (with_reducible refine heap_up_lay ?_ _; (with_reducible refine heap_at ?_; first | rfl | (simp; done) | (simp [lay_size]; done))) | (with_reducible refine heap_up_alloc (heap_up_lay ?_ _) _; (with_reducible refine heap_at ?_; first | rfl | (simp; done) | (simp [lay_size]; done))))) (Byt.s (by repeat (first | with_reducible exact HB.out.1 | with_reducible refine hKeep _ _ _ ?_ | with_reducible apply Byt.alloc' | with_reducible apply Byt.lay' | with_reducible apply Byt.drew'))) ((HS.out.s1.kp HKw.out).kp (XS.k (x := x) (by assumption))) (Byt.s (by first | with_reducible exact Byt.alloc' (byt_last w7 lo x.kind) _ | skip; repeat (first | (with_reducible refine byt_last' _ _ _ ?_; first | rfl | (simp; done) | (simp [lay_size]; done)) | with_reducible refine hKeep _ _ _ ?_ | with_reducible apply Byt.alloc' | with_reducible apply Byt.lay' | with_reducible apply Byt.drew'))) HTT.out HL30.out).mono ?_; rintro e w8 ⟨⟨A9, c9, rfl, hS9, hG9, hF9⟩, hB9⟩; dsimp only)
                    refine hK.out _ _ ?_ (fun hHeld6 => ?_)
                    · (try dsimp only); (first | exact XS.of HM.out.1 (kp_drew HKr.out) | exact XS.of HM.out.1 (kp_alloc (XS.k (x := x) (by assumption)) _) | exact XS.of HM.out.1 (kp_lay (XS.k (x := x) (by assumption)) _) | exact XS.of HM.out.1 (kp_call (XS.k (x := x) (by assumption)) (by assumption)) | exact XS.of HM.out.1 (hKk _ (XS.k (x := x) (by assumption)) hbz0))
                    clear hK K
                    clear hHeld5
                    try simp only [Act.put, List.setIfInBounds_toArray, List.set_cons_zero, List.set_cons_succ]
                    refine wpAnyH_take (i := 14) (oi := { dst := some 2, op := Op.assign (Operand.tmp 139), type := 26, pos := "markup.go:180", after := #[{ on := 6, ground := Ground.data }, { on := 13, ground := Ground.chain }, { on := 0, ground := Ground.phase }, { on := 1, ground := Ground.phase }, { on := 2, ground := Ground.phase }, { on := 3, ground := Ground.phase }, { on := 4, ground := Ground.phase }, { on := 5, ground := Ground.phase }, { on := 6, ground := Ground.phase }, { on := 7, ground := Ground.textOnly Departure.lateStores }, { on := 8, ground := Ground.textOnly Departure.lateStores }, { on := 9, ground := Ground.textOnly Departure.lateStores }, { on := 10, ground := Ground.textOnly Departure.lateStores }, { on := 11, ground := Ground.textOnly Departure.lateStores }, { on := 12, ground := Ground.textOnly Departure.lateStores }, { on := 13, ground := Ground.textOnly Departure.lateStoresUnsure }], guard := none }) (v := ?_) rfl (by kernel_rfl) (by kernel_rfl) (by kernel_rfl) (fun _ _ _ h => h) (Or.inl ⟨by rfl, ?_⟩) (by assumption) ?_
                    rotate_left
                    · (intro w hSw; (try dsimp only at hSw); go_simp <;> with_reducible rfl)
                    try simp only [Act.put, List.setIfInBounds_toArray, List.set_cons_zero, List.set_cons_succ]
                    refine wpAnyH_take (i := 15) (oi := { dst := some 3, op := Op.assign (Operand.tmp 146), type := 25, pos := "markup.go:180", after := #[{ on := 13, ground := Ground.data }, { on := 14, ground := Ground.chain }, { on := 0, ground := Ground.phase }, { on := 1, ground := Ground.phase }, { on := 2, ground := Ground.phase }, { on := 3, ground := Ground.phase }, { on := 4, ground := Ground.phase }, { on := 5, ground := Ground.phase }, { on := 6, ground := Ground.phase }, { on := 7, ground := Ground.phase }, { on := 8, ground := Ground.phase }, { on := 9, ground := Ground.phase }, { on := 10, ground := Ground.phase }, { on := 11, ground := Ground.phase }, { on := 12, ground := Ground.phase }, { on := 13, ground := Ground.phase }, { on := 14, ground := Ground.phase }], guard := none }) (v := ?_) rfl (by kernel_rfl) (by kernel_rfl) (by kernel_rfl) (fun _ _ _ h => h) (Or.inl ⟨by rfl, ?_⟩) (by assumption) ?_
                    rotate_left
                    · (intro w hSw; (try dsimp only at hSw); go_simp <;> with_reducible rfl)
                    try simp only [Act.put, List.setIfInBounds_toArray, List.set_cons_zero, List.set_cons_succ]
                    refine wpAnyH_done (by kernel_rfl) ?_ _
                    have HFin : Hd (Pcs w8 lo (w.heap.size + 1) v' (P ++ [⟨lastK x.kind, _, lastT x.kind, _, none, [], 0, none, [], 0⟩]) ∧ Slc w8 A9 TT c9 ∧ Kp w w8) :=
                      ⟨Pcs.below (by first | with_reducible exact hPc | with_reducible exact hPc.alloc _ | with_reducible exact (hPc.grow (kp_lay (kp_refl _) _)).alloc _) hB9, hS9, kp_trans HKw.out (XS.k (x := x) (by assumption))⟩
                    have HTo2 := Hd.mk HTo.out
                    have HHf : Hd (His lo w.heap.size (P ++ [⟨lastK x.kind, _, lastT x.kind, _, none, [], 0, none, [], 0⟩])) := ⟨HIP.out.2.add fun y hy => by
                      obtain ⟨q1, q2, q3⟩ := hHi y hy
                      have hq : w.heap.size ≤ wr.heap.size := by omega
                      exact ⟨q1.mono hq, q2.mono hq, q3.mono hq⟩⟩
                    clear hHi hS9 hG9 hB9 hPc hKeep hKeepH hKk m1
                    go_wp2_with fail
                    go_ret2
                    exact ⟨⟨_, _, A9, c9, rfl, HFin.out.1.widen (Nat.le_succ _) HLw.out, by rw [List.map_append, HTo2.out, HD.out, ← HS0.out]; rfl, HFin.out.2.1, HHf.out⟩, HFin.out.2.2⟩
                  exact AllReadyH.nil
                exact AllReadyH.nil
              exact AllReadyH.nil
            exact AllReadyH.nil
          refine AllReadyH.cons (o := { dst := some 144, op := Op.convert 9 25 (Operand.tmp 143), type := 25, pos := "markup.go:180", after := #[{ on := 10, ground := Ground.data }], guard := none }) rfl (fun K hK => ?_) ?_
          ·
            go_simp
            refine hK.out _ _ ?_ (fun hHeld2 => ?_)
            · (try dsimp only); (first | exact XS.of HM.out.1 (kp_drew HKr.out) | exact XS.of HM.out.1 (kp_alloc (XS.k (x := x) (by assumption)) _) | exact XS.of HM.out.1 (kp_lay (XS.k (x := x) (by assumption)) _) | exact XS.of HM.out.1 (kp_call (XS.k (x := x) (by assumption)) (by assumption)) | exact XS.of HM.out.1 (hKk _ (XS.k (x := x) (by assumption)) hbz0))
            clear hK K
            clear hHeld1
            try simp only [Act.put, List.setIfInBounds_toArray, List.set_cons_zero, List.set_cons_succ]
            refine wpAnyH_ready (rs := [5, 12]) (by kernel_rfl) (by simp) ?_
            refine AllReadyH.cons (o := { dst := some 138, op := Op.buildSlice 26 1 #[(0, Operand.tmp 137)], type := 26, pos := "markup.go:180", after := #[{ on := 4, ground := Ground.data }], guard := none }) rfl (fun K hK => ?_) ?_
            ·
              go_simp
              refine hK.out _ _ ?_ (fun hHeld3 => ?_)
              · (try dsimp only); (first | exact XS.of HM.out.1 (kp_drew HKr.out) | exact XS.of HM.out.1 (kp_alloc (XS.k (x := x) (by assumption)) _) | exact XS.of HM.out.1 (kp_lay (XS.k (x := x) (by assumption)) _) | exact XS.of HM.out.1 (kp_call (XS.k (x := x) (by assumption)) (by assumption)) | exact XS.of HM.out.1 (hKk _ (XS.k (x := x) (by assumption)) hbz0))
              clear hK K
              clear hHeld2
              try simp only [Act.put, List.setIfInBounds_toArray, List.set_cons_zero, List.set_cons_succ]
              refine wpAnyH_ready (rs := [6, 12]) (by kernel_rfl) (by simp) ?_
              refine AllReadyH.cons (o := { dst := some 139, op := Op.call { callee := Callee.builtin Builtin.append, args := #[Operand.tmp 133, Operand.tmp 138], argTypes := #[26, 26] }, type := 26, pos := "markup.go:180", after := #[{ on := 0, ground := Ground.data }, { on := 5, ground := Ground.data }], guard := none }) rfl (fun K hK => ?_) ?_
              ·
                (refine step_last (kk := lastK x.kind) (TT := lastT x.kind) (v := u13) (by rfl) (.tmp 133) (.tmp 138) (.tmp 136) (by rfl) (by rfl) (by rfl) (by rfl) (by repeat (first | exact kp_refl wr | with_reducible apply kp_alloc | with_reducible apply kp_lay | with_reducible apply kp_drew)) HP.out.1 (by first | (with_reducible refine heap_at ?_; first | rfl | (simp; done) | (simp [lay_size]; done)) | (with_reducible refine heap_up_lay ?_ _; (with_reducible refine heap_at ?_; first | rfl | (simp; done) | (simp [lay_size]; done))) | (with_reducible refine heap_up_alloc (heap_up_lay ?_ _) _; (with_reducible refine heap_at ?_; first | rfl | (simp; done) | (simp [lay_size]; done))) | (with_reducible refine heap_up_alloc ?_ _; (with_reducible refine heap_at ?_; first | rfl | (simp; done) | (simp [lay_size]; done)))) (by repeat (first | (with_reducible refine byt_last' _ _ _ ?_; first | rfl | (simp; done) | (simp [lay_size]; done)) | with_reducible apply Byt.alloc' | with_reducible apply Byt.lay' | with_reducible apply Byt.drew')) hPl2 hbse (by intro ad e; cases e; first | exact Nat.le_refl _ | (simp; done) | (simp; omega) | (simp [lay_size]; done) | (simp [lay_size]; omega)) ?_; intro v' w7 hHi hPc hKeep hKeepH hKk)
                refine hK.out _ _ ?_ (fun hHeld4 => ?_)
                · (try dsimp only); (first | exact XS.of HM.out.1 (kp_drew HKr.out) | exact XS.of HM.out.1 (kp_alloc (XS.k (x := x) (by assumption)) _) | exact XS.of HM.out.1 (kp_lay (XS.k (x := x) (by assumption)) _) | exact XS.of HM.out.1 (kp_call (XS.k (x := x) (by assumption)) (by assumption)) | exact XS.of HM.out.1 (hKk _ (XS.k (x := x) (by assumption)) hbz0))
                clear hK K
                clear hHeld3
                try simp only [Act.put, List.setIfInBounds_toArray, List.set_cons_zero, List.set_cons_succ]
                refine wpAnyH_ready (rs := [12]) (by kernel_rfl) (by simp) ?_
                refine AllReadyH.cons (o := { dst := some 145, op := Op.buildSlice 74 3 #[(0, Operand.tmp 140), (1, Operand.tmp 142), (2, Operand.tmp 144)], type := 74, pos := "markup.go:180", after := #[{ on := 7, ground := Ground.data }, { on := 9, ground := Ground.data }, { on := 11, ground := Ground.data }], guard := none }) rfl (fun K hK => ?_) ?_
                ·
                  go_simp
                  refine hK.out _ _ ?_ (fun hHeld5 => ?_)
                  · (try dsimp only); (first | exact XS.of HM.out.1 (kp_drew HKr.out) | exact XS.of HM.out.1 (kp_alloc (XS.k (x := x) (by assumption)) _) | exact XS.of HM.out.1 (kp_lay (XS.k (x := x) (by assumption)) _) | exact XS.of HM.out.1 (kp_call (XS.k (x := x) (by assumption)) (by assumption)) | exact XS.of HM.out.1 (hKk _ (XS.k (x := x) (by assumption)) hbz0))
                  clear hK K
                  clear hHeld4
                  try simp only [Act.put, List.setIfInBounds_toArray, List.set_cons_zero, List.set_cons_succ]
                  refine wpAnyH_ready (rs := [13]) (by kernel_rfl) (by simp) ?_
                  refine AllReadyH.cons (o := { dst := some 146, op := Op.call { callee := Callee.value (Operand.func 49), args := #[Operand.tmp 145], argTypes := #[74] }, type := 25, pos := "markup.go:180", after := #[{ on := 12, ground := Ground.data }, { on := 6, ground := Ground.chain }], guard := none }) rfl (fun K hK => ?_) ?_
                  ·
                    (go_simp; go_at_call 49; refine (join_3 (T1 := S) (T2 := x.text) (T3 := lastT x.kind) (by first | (with_reducible refine heap_at ?_; first | rfl | (simp; done) | (simp [lay_size]; done)) | (with_reducible refine hKeepH _ _ ?_; first | (with_reducible refine heap_at ?_; first | rfl | (simp; done) | (simp [lay_size]; done)) | (with_reducible refine heap_up_alloc ?_ _; (with_reducible refine heap_at ?_; first | rfl | (simp; done) | (simp [lay_size]; done))) | (with_reducible refine heap_up_lay ?_ _; (with_reducible refine heap_at ?_; first | rfl | (simp; done) | (simp [lay_size]; done))) | (with_reducible refine heap_up_alloc (heap_up_lay ?_ _) _; (with_reducible refine heap_at ?_; first | rfl | (simp; done) | (simp [lay_size]; done))))) (Byt.s (by repeat (first | with_reducible exact HB.out.1 | with_reducible refine hKeep _ _ _ ?_ | with_reducible apply Byt.alloc' | with_reducible apply Byt.lay' | with_reducible apply Byt.drew'))) ((HS.out.s1.kp HKw.out).kp (XS.k (x := x) (by assumption))) (Byt.s (by first | with_reducible exact Byt.alloc' (byt_last w7 lo x.kind) _ | skip; repeat (first | (with_reducible refine byt_last' _ _ _ ?_; first | rfl | (simp; done) | (simp [lay_size]; done)) | with_reducible refine hKeep _ _ _ ?_ | with_reducible apply Byt.alloc' | with_reducible apply Byt.lay' | with_reducible apply Byt.drew'))) HTT.out HL30.out).mono ?_; rintro e w8 ⟨⟨A9, c9, rfl, hS9, hG9, hF9⟩, hB9⟩; dsimp only)
                    refine hK.out _ _ ?_ (fun hHeld6 => ?_)
                    · (try dsimp only); (first | exact XS.of HM.out.1 (kp_drew HKr.out) | exact XS.of HM.out.1 (kp_alloc (XS.k (x := x) (by assumption)) _) | exact XS.of HM.out.1 (kp_lay (XS.k (x := x) (by assumption)) _) | exact XS.of HM.out.1 (kp_call (XS.k (x := x) (by assumption)) (by assumption)) | exact XS.of HM.out.1 (hKk _ (XS.k (x := x) (by assumption)) hbz0))
                    clear hK K
                    clear hHeld5
                    try simp only [Act.put, List.setIfInBounds_toArray, List.set_cons_zero, List.set_cons_succ]
                    refine wpAnyH_take (i := 14) (oi := { dst := some 2, op := Op.assign (Operand.tmp 139), type := 26, pos := "markup.go:180", after := #[{ on := 6, ground := Ground.data }, { on := 13, ground := Ground.chain }, { on := 0, ground := Ground.phase }, { on := 1, ground := Ground.phase }, { on := 2, ground := Ground.phase }, { on := 3, ground := Ground.phase }, { on := 4, ground := Ground.phase }, { on := 5, ground := Ground.phase }, { on := 6, ground := Ground.phase }, { on := 7, ground := Ground.textOnly Departure.lateStores }, { on := 8, ground := Ground.textOnly Departure.lateStores }, { on := 9, ground := Ground.textOnly Departure.lateStores }, { on := 10, ground := Ground.textOnly Departure.lateStores }, { on := 11, ground := Ground.textOnly Departure.lateStores }, { on := 12, ground := Ground.textOnly Departure.lateStores }, { on := 13, ground := Ground.textOnly Departure.lateStoresUnsure }], guard := none }) (v := ?_) rfl (by kernel_rfl) (by kernel_rfl) (by kernel_rfl) (fun _ _ _ h => h) (Or.inl ⟨by rfl, ?_⟩) (by assumption) ?_
                    rotate_left
                    · (intro w hSw; (try dsimp only at hSw); go_simp <;> with_reducible rfl)
                    try simp only [Act.put, List.setIfInBounds_toArray, List.set_cons_zero, List.set_cons_succ]
                    refine wpAnyH_take (i := 15) (oi := { dst := some 3, op := Op.assign (Operand.tmp 146), type := 25, pos := "markup.go:180", after := #[{ on := 13, ground := Ground.data }, { on := 14, ground := Ground.chain }, { on := 0, ground := Ground.phase }, { on := 1, ground := Ground.phase }, { on := 2, ground := Ground.phase }, { on := 3, ground := Ground.phase }, { on := 4, ground := Ground.phase }, { on := 5, ground := Ground.phase }, { on := 6, ground := Ground.phase }, { on := 7, ground := Ground.phase }, { on := 8, ground := Ground.phase }, { on := 9, ground := Ground.phase }, { on := 10, ground := Ground.phase }, { on := 11, ground := Ground.phase }, { on := 12, ground := Ground.phase }, { on := 13, ground := Ground.phase }, { on := 14, ground := Ground.phase }], guard := none }) (v := ?_) rfl (by kernel_rfl) (by kernel_rfl) (by kernel_rfl) (fun _ _ _ h => h) (Or.inl ⟨by rfl, ?_⟩) (by assumption) ?_
                    rotate_left
                    · (intro w hSw; (try dsimp only at hSw); go_simp <;> with_reducible rfl)
                    try simp only [Act.put, List.setIfInBounds_toArray, List.set_cons_zero, List.set_cons_succ]
                    refine wpAnyH_done (by kernel_rfl) ?_ _
                    have HFin : Hd (Pcs w8 lo (w.heap.size + 1) v' (P ++ [⟨lastK x.kind, _, lastT x.kind, _, none, [], 0, none, [], 0⟩]) ∧ Slc w8 A9 TT c9 ∧ Kp w w8) :=
                      ⟨Pcs.below (by first | with_reducible exact hPc | with_reducible exact hPc.alloc _ | with_reducible exact (hPc.grow (kp_lay (kp_refl _) _)).alloc _) hB9, hS9, kp_trans HKw.out (XS.k (x := x) (by assumption))⟩
                    have HTo2 := Hd.mk HTo.out
                    have HHf : Hd (His lo w.heap.size (P ++ [⟨lastK x.kind, _, lastT x.kind, _, none, [], 0, none, [], 0⟩])) := ⟨HIP.out.2.add fun y hy => by
                      obtain ⟨q1, q2, q3⟩ := hHi y hy
                      have hq : w.heap.size ≤ wr.heap.size := by omega
                      exact ⟨q1.mono hq, q2.mono hq, q3.mono hq⟩⟩
                    clear hHi hS9 hG9 hB9 hPc hKeep hKeepH hKk m1
                    go_wp2_with fail
                    go_ret2
                    exact ⟨⟨_, _, A9, c9, rfl, HFin.out.1.widen (Nat.le_succ _) HLw.out, by rw [List.map_append, HTo2.out, HD.out, ← HS0.out]; rfl, HFin.out.2.1, HHf.out⟩, HFin.out.2.2⟩
                  exact AllReadyH.nil
                exact AllReadyH.nil
              refine AllReadyH.cons (o := { dst := some 145, op := Op.buildSlice 74 3 #[(0, Operand.tmp 140), (1, Operand.tmp 142), (2, Operand.tmp 144)], type := 74, pos := "markup.go:180", after := #[{ on := 7, ground := Ground.data }, { on := 9, ground := Ground.data }, { on := 11, ground := Ground.data }], guard := none }) rfl (fun K hK => ?_) ?_
              ·
                go_simp
                refine hK.out _ _ ?_ (fun hHeld4 => ?_)
                · (try dsimp only); (first | exact XS.of HM.out.1 (kp_drew HKr.out) | exact XS.of HM.out.1 (kp_alloc (XS.k (x := x) (by assumption)) _) | exact XS.of HM.out.1 (kp_lay (XS.k (x := x) (by assumption)) _) | exact XS.of HM.out.1 (kp_call (XS.k (x := x) (by assumption)) (by assumption)) | exact XS.of HM.out.1 (hKk _ (XS.k (x := x) (by assumption)) hbz0))
                clear hK K
                clear hHeld3
                try simp only [Act.put, List.setIfInBounds_toArray, List.set_cons_zero, List.set_cons_succ]
                refine wpAnyH_ready (rs := [6]) (by kernel_rfl) (by simp) ?_
                refine AllReadyH.cons (o := { dst := some 139, op := Op.call { callee := Callee.builtin Builtin.append, args := #[Operand.tmp 133, Operand.tmp 138], argTypes := #[26, 26] }, type := 26, pos := "markup.go:180", after := #[{ on := 0, ground := Ground.data }, { on := 5, ground := Ground.data }], guard := none }) rfl (fun K hK => ?_) ?_
                ·
                  (refine step_last (kk := lastK x.kind) (TT := lastT x.kind) (v := u13) (by rfl) (.tmp 133) (.tmp 138) (.tmp 136) (by rfl) (by rfl) (by rfl) (by rfl) (by repeat (first | exact kp_refl wr | with_reducible apply kp_alloc | with_reducible apply kp_lay | with_reducible apply kp_drew)) HP.out.1 (by first | (with_reducible refine heap_at ?_; first | rfl | (simp; done) | (simp [lay_size]; done)) | (with_reducible refine heap_up_lay ?_ _; (with_reducible refine heap_at ?_; first | rfl | (simp; done) | (simp [lay_size]; done))) | (with_reducible refine heap_up_alloc (heap_up_lay ?_ _) _; (with_reducible refine heap_at ?_; first | rfl | (simp; done) | (simp [lay_size]; done))) | (with_reducible refine heap_up_alloc ?_ _; (with_reducible refine heap_at ?_; first | rfl | (simp; done) | (simp [lay_size]; done)))) (by repeat (first | (with_reducible refine byt_last' _ _ _ ?_; first | rfl | (simp; done) | (simp [lay_size]; done)) | with_reducible apply Byt.alloc' | with_reducible apply Byt.lay' | with_reducible apply Byt.drew')) hPl2 hbse (by intro ad e; cases e; first | exact Nat.le_refl _ | (simp; done) | (simp; omega) | (simp [lay_size]; done) | (simp [lay_size]; omega)) ?_; intro v' w7 hHi hPc hKeep hKeepH hKk)
                  refine hK.out _ _ ?_ (fun hHeld5 => ?_)
                  · (try dsimp only); (first | exact XS.of HM.out.1 (kp_drew HKr.out) | exact XS.of HM.out.1 (kp_alloc (XS.k (x := x) (by assumption)) _) | exact XS.of HM.out.1 (kp_lay (XS.k (x := x) (by assumption)) _) | exact XS.of HM.out.1 (kp_call (XS.k (x := x) (by assumption)) (by assumption)) | exact XS.of HM.out.1 (hKk _ (XS.k (x := x) (by assumption)) hbz0))
                  clear hK K
                  clear hHeld4
                  try simp only [Act.put, List.setIfInBounds_toArray, List.set_cons_zero, List.set_cons_succ]
                  refine wpAnyH_ready (rs := [13]) (by kernel_rfl) (by simp) ?_
                  refine AllReadyH.cons (o := { dst := some 146, op := Op.call { callee := Callee.value (Operand.func 49), args := #[Operand.tmp 145], argTypes := #[74] }, type := 25, pos := "markup.go:180", after := #[{ on := 12, ground := Ground.data }, { on := 6, ground := Ground.chain }], guard := none }) rfl (fun K hK => ?_) ?_
                  ·
                    (go_simp; go_at_call 49; refine (join_3 (T1 := S) (T2 := x.text) (T3 := lastT x.kind) (by first | (with_reducible refine heap_at ?_; first | rfl | (simp; done) | (simp [lay_size]; done)) | (with_reducible refine hKeepH _ _ ?_; first | (with_reducible refine heap_at ?_; first | rfl | (simp; done) | (simp [lay_size]; done)) | (with_reducible refine heap_up_alloc ?_ _; (with_reducible refine heap_at ?_; first | rfl | (simp; done) | (simp [lay_size]; done))) | (with_reducible refine heap_up_lay ?_ _; (with_reducible refine heap_at ?_; first | rfl | (simp; done) | (simp [lay_size]; done))) | (with_reducible refine heap_up_alloc (heap_up_lay ?_ _) _; (with_reducible refine heap_at ?_; first | rfl | (simp; done) | (simp [lay_size]; done))))) (Byt.s (by repeat (first | with_reducible exact HB.out.1 | with_reducible refine hKeep _ _ _ ?_ | with_reducible apply Byt.alloc' | with_reducible apply Byt.lay' | with_reducible apply Byt.drew'))) ((HS.out.s1.kp HKw.out).kp (XS.k (x := x) (by assumption))) (Byt.s (by first | with_reducible exact Byt.alloc' (byt_last w7 lo x.kind) _ | skip; repeat (first | (with_reducible refine byt_last' _ _ _ ?_; first | rfl | (simp; done) | (simp [lay_size]; done)) | with_reducible refine hKeep _ _ _ ?_ | with_reducible apply Byt.alloc' | with_reducible apply Byt.lay' | with_reducible apply Byt.drew'))) HTT.out HL30.out).mono ?_; rintro e w8 ⟨⟨A9, c9, rfl, hS9, hG9, hF9⟩, hB9⟩; dsimp only)
                    refine hK.out _ _ ?_ (fun hHeld6 => ?_)
                    · (try dsimp only); (first | exact XS.of HM.out.1 (kp_drew HKr.out) | exact XS.of HM.out.1 (kp_alloc (XS.k (x := x) (by assumption)) _) | exact XS.of HM.out.1 (kp_lay (XS.k (x := x) (by assumption)) _) | exact XS.of HM.out.1 (kp_call (XS.k (x := x) (by assumption)) (by assumption)) | exact XS.of HM.out.1 (hKk _ (XS.k (x := x) (by assumption)) hbz0))
                    clear hK K
                    clear hHeld5
                    try simp only [Act.put, List.setIfInBounds_toArray, List.set_cons_zero, List.set_cons_succ]
                    refine wpAnyH_take (i := 14) (oi := { dst := some 2, op := Op.assign (Operand.tmp 139), type := 26, pos := "markup.go:180", after := #[{ on := 6, ground := Ground.data }, { on := 13, ground := Ground.chain }, { on := 0, ground := Ground.phase }, { on := 1, ground := Ground.phase }, { on := 2, ground := Ground.phase }, { on := 3, ground := Ground.phase }, { on := 4, ground := Ground.phase }, { on := 5, ground := Ground.phase }, { on := 6, ground := Ground.phase }, { on := 7, ground := Ground.textOnly Departure.lateStores }, { on := 8, ground := Ground.textOnly Departure.lateStores }, { on := 9, ground := Ground.textOnly Departure.lateStores }, { on := 10, ground := Ground.textOnly Departure.lateStores }, { on := 11, ground := Ground.textOnly Departure.lateStores }, { on := 12, ground := Ground.textOnly Departure.lateStores }, { on := 13, ground := Ground.textOnly Departure.lateStoresUnsure }], guard := none }) (v := ?_) rfl (by kernel_rfl) (by kernel_rfl) (by kernel_rfl) (fun _ _ _ h => h) (Or.inl ⟨by rfl, ?_⟩) (by assumption) ?_
                    rotate_left
                    · (intro w hSw; (try dsimp only at hSw); go_simp <;> with_reducible rfl)
                    try simp only [Act.put, List.setIfInBounds_toArray, List.set_cons_zero, List.set_cons_succ]
                    refine wpAnyH_take (i := 15) (oi := { dst := some 3, op := Op.assign (Operand.tmp 146), type := 25, pos := "markup.go:180", after := #[{ on := 13, ground := Ground.data }, { on := 14, ground := Ground.chain }, { on := 0, ground := Ground.phase }, { on := 1, ground := Ground.phase }, { on := 2, ground := Ground.phase }, { on := 3, ground := Ground.phase }, { on := 4, ground := Ground.phase }, { on := 5, ground := Ground.phase }, { on := 6, ground := Ground.phase }, { on := 7, ground := Ground.phase }, { on := 8, ground := Ground.phase }, { on := 9, ground := Ground.phase }, { on := 10, ground := Ground.phase }, { on := 11, ground := Ground.phase }, { on := 12, ground := Ground.phase }, { on := 13, ground := Ground.phase }, { on := 14, ground := Ground.phase }], guard := none }) (v := ?_) rfl (by kernel_rfl) (by kernel_rfl) (by kernel_rfl) (fun _ _ _ h => h) (Or.inl ⟨by rfl, ?_⟩) (by assumption) ?_
                    rotate_left
                    · (intro w hSw; (try dsimp only at hSw); go_simp <;> with_reducible rfl)
                    try simp only [Act.put, List.setIfInBounds_toArray, List.set_cons_zero, List.set_cons_succ]
                    refine wpAnyH_done (by kernel_rfl) ?_ _
                    have HFin : Hd (Pcs w8 lo (w.heap.size + 1) v' (P ++ [⟨lastK x.kind, _, lastT x.kind, _, none, [], 0, none, [], 0⟩]) ∧ Slc w8 A9 TT c9 ∧ Kp w w8) :=
                      ⟨Pcs.below (by first | with_reducible exact hPc | with_reducible exact hPc.alloc _ | with_reducible exact (hPc.grow (kp_lay (kp_refl _) _)).alloc _) hB9, hS9, kp_trans HKw.out (XS.k (x := x) (by assumption))⟩
                    have HTo2 := Hd.mk HTo.out
                    have HHf : Hd (His lo w.heap.size (P ++ [⟨lastK x.kind, _, lastT x.kind, _, none, [], 0, none, [], 0⟩])) := ⟨HIP.out.2.add fun y hy => by
                      obtain ⟨q1, q2, q3⟩ := hHi y hy
                      have hq : w.heap.size ≤ wr.heap.size := by omega
                      exact ⟨q1.mono hq, q2.mono hq, q3.mono hq⟩⟩
                    clear hHi hS9 hG9 hB9 hPc hKeep hKeepH hKk m1
                    go_wp2_with fail
                    go_ret2
                    exact ⟨⟨_, _, A9, c9, rfl, HFin.out.1.widen (Nat.le_succ _) HLw.out, by rw [List.map_append, HTo2.out, HD.out, ← HS0.out]; rfl, HFin.out.2.1, HHf.out⟩, HFin.out.2.2⟩
                  exact AllReadyH.nil
                exact AllReadyH.nil
              exact AllReadyH.nil
            refine AllReadyH.cons (o := { dst := some 145, op := Op.buildSlice 74 3 #[(0, Operand.tmp 140), (1, Operand.tmp 142), (2, Operand.tmp 144)], type := 74, pos := "markup.go:180", after := #[{ on := 7, ground := Ground.data }, { on := 9, ground := Ground.data }, { on := 11, ground := Ground.data }], guard := none }) rfl (fun K hK => ?_) ?_
            ·
              go_simp
              refine hK.out _ _ ?_ (fun hHeld3 => ?_)
              · (try dsimp only); (first | exact XS.of HM.out.1 (kp_drew HKr.out) | exact XS.of HM.out.1 (kp_alloc (XS.k (x := x) (by assumption)) _) | exact XS.of HM.out.1 (kp_lay (XS.k (x := x) (by assumption)) _) | exact XS.of HM.out.1 (kp_call (XS.k (x := x) (by assumption)) (by assumption)) | exact XS.of HM.out.1 (hKk _ (XS.k (x := x) (by assumption)) hbz0))
              clear hK K
              clear hHeld2
              try simp only [Act.put, List.setIfInBounds_toArray, List.set_cons_zero, List.set_cons_succ]
              refine wpAnyH_ready (rs := [5]) (by kernel_rfl) (by simp) ?_
              refine AllReadyH.cons (o := { dst := some 138, op := Op.buildSlice 26 1 #[(0, Operand.tmp 137)], type := 26, pos := "markup.go:180", after := #[{ on := 4, ground := Ground.data }], guard := none }) rfl (fun K hK => ?_) ?_
              ·
                go_simp
                refine hK.out _ _ ?_ (fun hHeld4 => ?_)
                · (try dsimp only); (first | exact XS.of HM.out.1 (kp_drew HKr.out) | exact XS.of HM.out.1 (kp_alloc (XS.k (x := x) (by assumption)) _) | exact XS.of HM.out.1 (kp_lay (XS.k (x := x) (by assumption)) _) | exact XS.of HM.out.1 (kp_call (XS.k (x := x) (by assumption)) (by assumption)) | exact XS.of HM.out.1 (hKk _ (XS.k (x := x) (by assumption)) hbz0))
                clear hK K
                clear hHeld3
                try simp only [Act.put, List.setIfInBounds_toArray, List.set_cons_zero, List.set_cons_succ]
                refine wpAnyH_ready (rs := [6]) (by kernel_rfl) (by simp) ?_
                refine AllReadyH.cons (o := { dst := some 139, op := Op.call { callee := Callee.builtin Builtin.append, args := #[Operand.tmp 133, Operand.tmp 138], argTypes := #[26, 26] }, type := 26, pos := "markup.go:180", after := #[{ on := 0, ground := Ground.data }, { on := 5, ground := Ground.data }], guard := none }) rfl (fun K hK => ?_) ?_
                ·
                  (refine step_last (kk := lastK x.kind) (TT := lastT x.kind) (v := u13) (by rfl) (.tmp 133) (.tmp 138) (.tmp 136) (by rfl) (by rfl) (by rfl) (by rfl) (by repeat (first | exact kp_refl wr | with_reducible apply kp_alloc | with_reducible apply kp_lay | with_reducible apply kp_drew)) HP.out.1 (by first | (with_reducible refine heap_at ?_; first | rfl | (simp; done) | (simp [lay_size]; done)) | (with_reducible refine heap_up_lay ?_ _; (with_reducible refine heap_at ?_; first | rfl | (simp; done) | (simp [lay_size]; done))) | (with_reducible refine heap_up_alloc (heap_up_lay ?_ _) _; (with_reducible refine heap_at ?_; first | rfl | (simp; done) | (simp [lay_size]; done))) | (with_reducible refine heap_up_alloc ?_ _; (with_reducible refine heap_at ?_; first | rfl | (simp; done) | (simp [lay_size]; done)))) (by repeat (first | (with_reducible refine byt_last' _ _ _ ?_; first | rfl | (simp; done) | (simp [lay_size]; done)) | with_reducible apply Byt.alloc' | with_reducible apply Byt.lay' | with_reducible apply Byt.drew')) hPl2 hbse (by intro ad e; cases e; first | exact Nat.le_refl _ | (simp; done) | (simp; omega) | (simp [lay_size]; done) | (simp [lay_size]; omega)) ?_; intro v' w7 hHi hPc hKeep hKeepH hKk)
                  refine hK.out _ _ ?_ (fun hHeld5 => ?_)
                  · (try dsimp only); (first | exact XS.of HM.out.1 (kp_drew HKr.out) | exact XS.of HM.out.1 (kp_alloc (XS.k (x := x) (by assumption)) _) | exact XS.of HM.out.1 (kp_lay (XS.k (x := x) (by assumption)) _) | exact XS.of HM.out.1 (kp_call (XS.k (x := x) (by assumption)) (by assumption)) | exact XS.of HM.out.1 (hKk _ (XS.k (x := x) (by assumption)) hbz0))
                  clear hK K
                  clear hHeld4
                  try simp only [Act.put, List.setIfInBounds_toArray, List.set_cons_zero, List.set_cons_succ]
                  refine wpAnyH_ready (rs := [13]) (by kernel_rfl) (by simp) ?_
                  refine AllReadyH.cons (o := { dst := some 146, op := Op.call { callee := Callee.value (Operand.func 49), args := #[Operand.tmp 145], argTypes := #[74] }, type := 25, pos := "markup.go:180", after := #[{ on := 12, ground := Ground.data }, { on := 6, ground := Ground.chain }], guard := none }) rfl (fun K hK => ?_) ?_
                  ·
                    (go_simp; go_at_call 49; refine (join_3 (T1 := S) (T2 := x.text) (T3 := lastT x.kind) (by first | (with_reducible refine heap_at ?_; first | rfl | (simp; done) | (simp [lay_size]; done)) | (with_reducible refine hKeepH _ _ ?_; first | (with_reducible refine heap_at ?_; first | rfl | (simp; done) | (simp [lay_size]; done)) | (with_reducible refine heap_up_alloc ?_ _; (with_reducible refine heap_at ?_; first | rfl | (simp; done) | (simp [lay_size]; done))) | (with_reducible refine heap_up_lay ?_ _; (with_reducible refine heap_at ?_; first | rfl | (simp; done) | (simp [lay_size]; done))) | (with_reducible refine heap_up_alloc (heap_up_lay ?_ _) _; (with_reducible refine heap_at ?_; first | rfl | (simp; done) | (simp [lay_size]; done))))) (Byt.s (by repeat (first | with_reducible exact HB.out.1 | with_reducible refine hKeep _ _ _ ?_ | with_reducible apply Byt.alloc' | with_reducible apply Byt.lay' | with_reducible apply Byt.drew'))) ((HS.out.s1.kp HKw.out).kp (XS.k (x := x) (by assumption))) (Byt.s (by first | with_reducible exact Byt.alloc' (byt_last w7 lo x.kind) _ | skip; repeat (first | (with_reducible refine byt_last' _ _ _ ?_; first | rfl | (simp; done) | (simp [lay_size]; done)) | with_reducible refine hKeep _ _ _ ?_ | with_reducible apply Byt.alloc' | with_reducible apply Byt.lay' | with_reducible apply Byt.drew'))) HTT.out HL30.out).mono ?_; rintro e w8 ⟨⟨A9, c9, rfl, hS9, hG9, hF9⟩, hB9⟩; dsimp only)
                    refine hK.out _ _ ?_ (fun hHeld6 => ?_)
                    · (try dsimp only); (first | exact XS.of HM.out.1 (kp_drew HKr.out) | exact XS.of HM.out.1 (kp_alloc (XS.k (x := x) (by assumption)) _) | exact XS.of HM.out.1 (kp_lay (XS.k (x := x) (by assumption)) _) | exact XS.of HM.out.1 (kp_call (XS.k (x := x) (by assumption)) (by assumption)) | exact XS.of HM.out.1 (hKk _ (XS.k (x := x) (by assumption)) hbz0))
                    clear hK K
                    clear hHeld5
                    try simp only [Act.put, List.setIfInBounds_toArray, List.set_cons_zero, List.set_cons_succ]
                    refine wpAnyH_take (i := 14) (oi := { dst := some 2, op := Op.assign (Operand.tmp 139), type := 26, pos := "markup.go:180", after := #[{ on := 6, ground := Ground.data }, { on := 13, ground := Ground.chain }, { on := 0, ground := Ground.phase }, { on := 1, ground := Ground.phase }, { on := 2, ground := Ground.phase }, { on := 3, ground := Ground.phase }, { on := 4, ground := Ground.phase }, { on := 5, ground := Ground.phase }, { on := 6, ground := Ground.phase }, { on := 7, ground := Ground.textOnly Departure.lateStores }, { on := 8, ground := Ground.textOnly Departure.lateStores }, { on := 9, ground := Ground.textOnly Departure.lateStores }, { on := 10, ground := Ground.textOnly Departure.lateStores }, { on := 11, ground := Ground.textOnly Departure.lateStores }, { on := 12, ground := Ground.textOnly Departure.lateStores }, { on := 13, ground := Ground.textOnly Departure.lateStoresUnsure }], guard := none }) (v := ?_) rfl (by kernel_rfl) (by kernel_rfl) (by kernel_rfl) (fun _ _ _ h => h) (Or.inl ⟨by rfl, ?_⟩) (by assumption) ?_
                    rotate_left
                    · (intro w hSw; (try dsimp only at hSw); go_simp <;> with_reducible rfl)
                    try simp only [Act.put, List.setIfInBounds_toArray, List.set_cons_zero, List.set_cons_succ]
                    refine wpAnyH_take (i := 15) (oi := { dst := some 3, op := Op.assign (Operand.tmp 146), type := 25, pos := "markup.go:180", after := #[{ on := 13, ground := Ground.data }, { on := 14, ground := Ground.chain }, { on := 0, ground := Ground.phase }, { on := 1, ground := Ground.phase }, { on := 2, ground := Ground.phase }, { on := 3, ground := Ground.phase }, { on := 4, ground := Ground.phase }, { on := 5, ground := Ground.phase }, { on := 6, ground := Ground.phase }, { on := 7, ground := Ground.phase }, { on := 8, ground := Ground.phase }, { on := 9, ground := Ground.phase }, { on := 10, ground := Ground.phase }, { on := 11, ground := Ground.phase }, { on := 12, ground := Ground.phase }, { on := 13, ground := Ground.phase }, { on := 14, ground := Ground.phase }], guard := none }) (v := ?_) rfl (by kernel_rfl) (by kernel_rfl) (by kernel_rfl) (fun _ _ _ h => h) (Or.inl ⟨by rfl, ?_⟩) (by assumption) ?_
                    rotate_left
                    · (intro w hSw; (try dsimp only at hSw); go_simp <;> with_reducible rfl)
                    try simp only [Act.put, List.setIfInBounds_toArray, List.set_cons_zero, List.set_cons_succ]
                    refine wpAnyH_done (by kernel_rfl) ?_ _
                    have HFin : Hd (Pcs w8 lo (w.heap.size + 1) v' (P ++ [⟨lastK x.kind, _, lastT x.kind, _, none, [], 0, none, [], 0⟩]) ∧ Slc w8 A9 TT c9 ∧ Kp w w8) :=
                      ⟨Pcs.below (by first | with_reducible exact hPc | with_reducible exact hPc.alloc _ | with_reducible exact (hPc.grow (kp_lay (kp_refl _) _)).alloc _) hB9, hS9, kp_trans HKw.out (XS.k (x := x) (by assumption))⟩
                    have HTo2 := Hd.mk HTo.out
                    have HHf : Hd (His lo w.heap.size (P ++ [⟨lastK x.kind, _, lastT x.kind, _, none, [], 0, none, [], 0⟩])) := ⟨HIP.out.2.add fun y hy => by
                      obtain ⟨q1, q2, q3⟩ := hHi y hy
                      have hq : w.heap.size ≤ wr.heap.size := by omega
                      exact ⟨q1.mono hq, q2.mono hq, q3.mono hq⟩⟩
                    clear hHi hS9 hG9 hB9 hPc hKeep hKeepH hKk m1
                    go_wp2_with fail
                    go_ret2
                    exact ⟨⟨_, _, A9, c9, rfl, HFin.out.1.widen (Nat.le_succ _) HLw.out, by rw [List.map_append, HTo2.out, HD.out, ← HS0.out]; rfl, HFin.out.2.1, HHf.out⟩, HFin.out.2.2⟩
                  exact AllReadyH.nil
                exact AllReadyH.nil
              exact AllReadyH.nil
            exact AllReadyH.nil
          exact AllReadyH.nil
        refine AllReadyH.cons (o := { dst := some 144, op := Op.convert 9 25 (Operand.tmp 143), type := 25, pos := "markup.go:180", after := #[{ on := 10, ground := Ground.data }], guard := none }) rfl (fun K hK => ?_) ?_
        ·
          go_simp
          refine hK.out _ _ ?_ (fun hHeld1 => ?_)
          · (try dsimp only); (first | exact XS.of HM.out.1 (kp_drew HKr.out) | exact XS.of HM.out.1 (kp_alloc (XS.k (x := x) (by assumption)) _) | exact XS.of HM.out.1 (kp_lay (XS.k (x := x) (by assumption)) _) | exact XS.of HM.out.1 (kp_call (XS.k (x := x) (by assumption)) (by assumption)) | exact XS.of HM.out.1 (hKk _ (XS.k (x := x) (by assumption)) hbz0))
          clear hK K
          clear hHeld
          try simp only [Act.put, List.setIfInBounds_toArray, List.set_cons_zero, List.set_cons_succ]
          refine wpAnyH_ready (rs := [3, 12]) (by kernel_rfl) (by simp) ?_
          refine AllReadyH.cons (o := { dst := some 136, op := Op.convert 9 25 (Operand.tmp 135), type := 25, pos := "markup.go:180", after := #[{ on := 2, ground := Ground.data }], guard := none }) rfl (fun K hK => ?_) ?_
          ·
            go_simp
            refine hK.out _ _ ?_ (fun hHeld2 => ?_)
            · (try dsimp only); (first | exact XS.of HM.out.1 (kp_drew HKr.out) | exact XS.of HM.out.1 (kp_alloc (XS.k (x := x) (by assumption)) _) | exact XS.of HM.out.1 (kp_lay (XS.k (x := x) (by assumption)) _) | exact XS.of HM.out.1 (kp_call (XS.k (x := x) (by assumption)) (by assumption)) | exact XS.of HM.out.1 (hKk _ (XS.k (x := x) (by assumption)) hbz0))
            clear hK K
            clear hHeld1
            try simp only [Act.put, List.setIfInBounds_toArray, List.set_cons_zero, List.set_cons_succ]
            refine wpAnyH_take (i := 4) (oi := { dst := some 137, op := Op.build 36 #[(0, Operand.tmp 134), (1, Operand.tmp 136)], type := 36, pos := "markup.go:180", after := #[{ on := 1, ground := Ground.data }, { on := 3, ground := Ground.data }], guard := none }) (v := ?_) rfl (by kernel_rfl) (by kernel_rfl) (by kernel_rfl) (fun _ _ _ h => h) (Or.inl ⟨by rfl, ?_⟩) (by assumption) ?_
            rotate_left
            · (intro w hSw; (try dsimp only at hSw); go_simp <;> with_reducible rfl)
            try simp only [Act.put, List.setIfInBounds_toArray, List.set_cons_zero, List.set_cons_succ]
            refine wpAnyH_ready (rs := [5, 12]) (by kernel_rfl) (by simp) ?_
            refine AllReadyH.cons (o := { dst := some 138, op := Op.buildSlice 26 1 #[(0, Operand.tmp 137)], type := 26, pos := "markup.go:180", after := #[{ on := 4, ground := Ground.data }], guard := none }) rfl (fun K hK => ?_) ?_
            ·
              go_simp
              refine hK.out _ _ ?_ (fun hHeld3 => ?_)
              · (try dsimp only); (first | exact XS.of HM.out.1 (kp_drew HKr.out) | exact XS.of HM.out.1 (kp_alloc (XS.k (x := x) (by assumption)) _) | exact XS.of HM.out.1 (kp_lay (XS.k (x := x) (by assumption)) _) | exact XS.of HM.out.1 (kp_call (XS.k (x := x) (by assumption)) (by assumption)) | exact XS.of HM.out.1 (hKk _ (XS.k (x := x) (by assumption)) hbz0))
              clear hK K
              clear hHeld2
              try simp only [Act.put, List.setIfInBounds_toArray, List.set_cons_zero, List.set_cons_succ]
              refine wpAnyH_ready (rs := [6, 12]) (by kernel_rfl) (by simp) ?_
              refine AllReadyH.cons (o := { dst := some 139, op := Op.call { callee := Callee.builtin Builtin.append, args := #[Operand.tmp 133, Operand.tmp 138], argTypes := #[26, 26] }, type := 26, pos := "markup.go:180", after := #[{ on := 0, ground := Ground.data }, { on := 5, ground := Ground.data }], guard := none }) rfl (fun K hK => ?_) ?_
              ·
                (refine step_last (kk := lastK x.kind) (TT := lastT x.kind) (v := u13) (by rfl) (.tmp 133) (.tmp 138) (.tmp 136) (by rfl) (by rfl) (by rfl) (by rfl) (by repeat (first | exact kp_refl wr | with_reducible apply kp_alloc | with_reducible apply kp_lay | with_reducible apply kp_drew)) HP.out.1 (by first | (with_reducible refine heap_at ?_; first | rfl | (simp; done) | (simp [lay_size]; done)) | (with_reducible refine heap_up_lay ?_ _; (with_reducible refine heap_at ?_; first | rfl | (simp; done) | (simp [lay_size]; done))) | (with_reducible refine heap_up_alloc (heap_up_lay ?_ _) _; (with_reducible refine heap_at ?_; first | rfl | (simp; done) | (simp [lay_size]; done))) | (with_reducible refine heap_up_alloc ?_ _; (with_reducible refine heap_at ?_; first | rfl | (simp; done) | (simp [lay_size]; done)))) (by repeat (first | (with_reducible refine byt_last' _ _ _ ?_; first | rfl | (simp; done) | (simp [lay_size]; done)) | with_reducible apply Byt.alloc' | with_reducible apply Byt.lay' | with_reducible apply Byt.drew')) hPl2 hbse (by intro ad e; cases e; first | exact Nat.le_refl _ | (simp; done) | (simp; omega) | (simp [lay_size]; done) | (simp [lay_size]; omega)) ?_; intro v' w7 hHi hPc hKeep hKeepH hKk)
                refine hK.out _ _ ?_ (fun hHeld4 => ?_)
                · (try dsimp only); (first | exact XS.of HM.out.1 (kp_drew HKr.out) | exact XS.of HM.out.1 (kp_alloc (XS.k (x := x) (by assumption)) _) | exact XS.of HM.out.1 (kp_lay (XS.k (x := x) (by assumption)) _) | exact XS.of HM.out.1 (kp_call (XS.k (x := x) (by assumption)) (by assumption)) | exact XS.of HM.out.1 (hKk _ (XS.k (x := x) (by assumption)) hbz0))
                clear hK K
                clear hHeld3
                try simp only [Act.put, List.setIfInBounds_toArray, List.set_cons_zero, List.set_cons_succ]
                refine wpAnyH_ready (rs := [12]) (by kernel_rfl) (by simp) ?_
                refine AllReadyH.cons (o := { dst := some 145, op := Op.buildSlice 74 3 #[(0, Operand.tmp 140), (1, Operand.tmp 142), (2, Operand.tmp 144)], type := 74, pos := "markup.go:180", after := #[{ on := 7, ground := Ground.data }, { on := 9, ground := Ground.data }, { on := 11, ground := Ground.data }], guard := none }) rfl (fun K hK => ?_) ?_
                ·
                  go_simp
                  refine hK.out _ _ ?_ (fun hHeld5 => ?_)
                  · (try dsimp only); (first | exact XS.of HM.out.1 (kp_drew HKr.out) | exact XS.of HM.out.1 (kp_alloc (XS.k (x := x) (by assumption)) _) | exact XS.of HM.out.1 (kp_lay (XS.k (x := x) (by assumption)) _) | exact XS.of HM.out.1 (kp_call (XS.k (x := x) (by assumption)) (by assumption)) | exact XS.of HM.out.1 (hKk _ (XS.k (x := x) (by assumption)) hbz0))
                  clear hK K
                  clear hHeld4
                  try simp only [Act.put, List.setIfInBounds_toArray, List.set_cons_zero, List.set_cons_succ]
                  refine wpAnyH_ready (rs := [13]) (by kernel_rfl) (by simp) ?_
                  refine AllReadyH.cons (o := { dst := some 146, op := Op.call { callee := Callee.value (Operand.func 49), args := #[Operand.tmp 145], argTypes := #[74] }, type := 25, pos := "markup.go:180", after := #[{ on := 12, ground := Ground.data }, { on := 6, ground := Ground.chain }], guard := none }) rfl (fun K hK => ?_) ?_
                  ·
                    (go_simp; go_at_call 49; refine (join_3 (T1 := S) (T2 := x.text) (T3 := lastT x.kind) (by first | (with_reducible refine heap_at ?_; first | rfl | (simp; done) | (simp [lay_size]; done)) | (with_reducible refine hKeepH _ _ ?_; first | (with_reducible refine heap_at ?_; first | rfl | (simp; done) | (simp [lay_size]; done)) | (with_reducible refine heap_up_alloc ?_ _; (with_reducible refine heap_at ?_; first | rfl | (simp; done) | (simp [lay_size]; done))) | (with_reducible refine heap_up_lay ?_ _; (with_reducible refine heap_at ?_; first | rfl | (simp; done) | (simp [lay_size]; done))) | (with_reducible refine heap_up_alloc (heap_up_lay ?_ _) _; (with_reducible refine heap_at ?_; first | rfl | (simp; done) | (simp [lay_size]; done))))) (Byt.s (by repeat (first | with_reducible exact HB.out.1 | with_reducible refine hKeep _ _ _ ?_ | with_reducible apply Byt.alloc' | with_reducible apply Byt.lay' | with_reducible apply Byt.drew'))) ((HS.out.s1.kp HKw.out).kp (XS.k (x := x) (by assumption))) (Byt.s (by first | with_reducible exact Byt.alloc' (byt_last w7 lo x.kind) _ | skip; repeat (first | (with_reducible refine byt_last' _ _ _ ?_; first | rfl | (simp; done) | (simp [lay_size]; done)) | with_reducible refine hKeep _ _ _ ?_ | with_reducible apply Byt.alloc' | with_reducible apply Byt.lay' | with_reducible apply Byt.drew'))) HTT.out HL30.out).mono ?_; rintro e w8 ⟨⟨A9, c9, rfl, hS9, hG9, hF9⟩, hB9⟩; dsimp only)
                    refine hK.out _ _ ?_ (fun hHeld6 => ?_)
                    · (try dsimp only); (first | exact XS.of HM.out.1 (kp_drew HKr.out) | exact XS.of HM.out.1 (kp_alloc (XS.k (x := x) (by assumption)) _) | exact XS.of HM.out.1 (kp_lay (XS.k (x := x) (by assumption)) _) | exact XS.of HM.out.1 (kp_call (XS.k (x := x) (by assumption)) (by assumption)) | exact XS.of HM.out.1 (hKk _ (XS.k (x := x) (by assumption)) hbz0))
                    clear hK K
                    clear hHeld5
                    try simp only [Act.put, List.setIfInBounds_toArray, List.set_cons_zero, List.set_cons_succ]
                    refine wpAnyH_take (i := 14) (oi := { dst := some 2, op := Op.assign (Operand.tmp 139), type := 26, pos := "markup.go:180", after := #[{ on := 6, ground := Ground.data }, { on := 13, ground := Ground.chain }, { on := 0, ground := Ground.phase }, { on := 1, ground := Ground.phase }, { on := 2, ground := Ground.phase }, { on := 3, ground := Ground.phase }, { on := 4, ground := Ground.phase }, { on := 5, ground := Ground.phase }, { on := 6, ground := Ground.phase }, { on := 7, ground := Ground.textOnly Departure.lateStores }, { on := 8, ground := Ground.textOnly Departure.lateStores }, { on := 9, ground := Ground.textOnly Departure.lateStores }, { on := 10, ground := Ground.textOnly Departure.lateStores }, { on := 11, ground := Ground.textOnly Departure.lateStores }, { on := 12, ground := Ground.textOnly Departure.lateStores }, { on := 13, ground := Ground.textOnly Departure.lateStoresUnsure }], guard := none }) (v := ?_) rfl (by kernel_rfl) (by kernel_rfl) (by kernel_rfl) (fun _ _ _ h => h) (Or.inl ⟨by rfl, ?_⟩) (by assumption) ?_
                    rotate_left
                    · (intro w hSw; (try dsimp only at hSw); go_simp <;> with_reducible rfl)
                    try simp only [Act.put, List.setIfInBounds_toArray, List.set_cons_zero, List.set_cons_succ]
                    refine wpAnyH_take (i := 15) (oi := { dst := some 3, op := Op.assign (Operand.tmp 146), type := 25, pos := "markup.go:180", after := #[{ on := 13, ground := Ground.data }, { on := 14, ground := Ground.chain }, { on := 0, ground := Ground.phase }, { on := 1, ground := Ground.phase }, { on := 2, ground := Ground.phase }, { on := 3, ground := Ground.phase }, { on := 4, ground := Ground.phase }, { on := 5, ground := Ground.phase }, { on := 6, ground := Ground.phase }, { on := 7, ground := Ground.phase }, { on := 8, ground := Ground.phase }, { on := 9, ground := Ground.phase }, { on := 10, ground := Ground.phase }, { on := 11, ground := Ground.phase }, { on := 12, ground := Ground.phase }, { on := 13, ground := Ground.phase }, { on := 14, ground := Ground.phase }], guard := none }) (v := ?_) rfl (by kernel_rfl) (by kernel_rfl) (by kernel_rfl) (fun _ _ _ h => h) (Or.inl ⟨by rfl, ?_⟩) (by assumption) ?_
                    rotate_left
                    · (intro w hSw; (try dsimp only at hSw); go_simp <;> with_reducible rfl)
                    try simp only [Act.put, List.setIfInBounds_toArray, List.set_cons_zero, List.set_cons_succ]
                    refine wpAnyH_done (by kernel_rfl) ?_ _
                    have HFin : Hd (Pcs w8 lo (w.heap.size + 1) v' (P ++ [⟨lastK x.kind, _, lastT x.kind, _, none, [], 0, none, [], 0⟩]) ∧ Slc w8 A9 TT c9 ∧ Kp w w8) :=
                      ⟨Pcs.below (by first | with_reducible exact hPc | with_reducible exact hPc.alloc _ | with_reducible exact (hPc.grow (kp_lay (kp_refl _) _)).alloc _) hB9, hS9, kp_trans HKw.out (XS.k (x := x) (by assumption))⟩
                    have HTo2 := Hd.mk HTo.out
                    have HHf : Hd (His lo w.heap.size (P ++ [⟨lastK x.kind, _, lastT x.kind, _, none, [], 0, none, [], 0⟩])) := ⟨HIP.out.2.add fun y hy => by
                      obtain ⟨q1, q2, q3⟩ := hHi y hy
                      have hq : w.heap.size ≤ wr.heap.size := by omega
                      exact ⟨q1.mono hq, q2.mono hq, q3.mono hq⟩⟩
                    clear hHi hS9 hG9 hB9 hPc hKeep hKeepH hKk m1
                    go_wp2_with fail
                    go_ret2
                    exact ⟨⟨_, _, A9, c9, rfl, HFin.out.1.widen (Nat.le_succ _) HLw.out, by rw [List.map_append, HTo2.out, HD.out, ← HS0.out]; rfl, HFin.out.2.1, HHf.out⟩, HFin.out.2.2⟩
                  exact AllReadyH.nil
                exact AllReadyH.nil
              refine AllReadyH.cons (o := { dst := some 145, op := Op.buildSlice 74 3 #[(0, Operand.tmp 140), (1, Operand.tmp 142), (2, Operand.tmp 144)], type := 74, pos := "markup.go:180", after := #[{ on := 7, ground := Ground.data }, { on := 9, ground := Ground.data }, { on := 11, ground := Ground.data }], guard := none }) rfl (fun K hK => ?_) ?_
              ·
                go_simp
                refine hK.out _ _ ?_ (fun hHeld4 => ?_)
                · (try dsimp only); (first | exact XS.of HM.out.1 (kp_drew HKr.out) | exact XS.of HM.out.1 (kp_alloc (XS.k (x := x) (by assumption)) _) | exact XS.of HM.out.1 (kp_lay (XS.k (x := x) (by assumption)) _) | exact XS.of HM.out.1 (kp_call (XS.k (x := x) (by assumption)) (by assumption)) | exact XS.of HM.out.1 (hKk _ (XS.k (x := x) (by assumption)) hbz0))
                clear hK K
                clear hHeld3
                try simp only [Act.put, List.setIfInBounds_toArray, List.set_cons_zero, List.set_cons_succ]
                refine wpAnyH_ready (rs := [6]) (by kernel_rfl) (by simp) ?_
                refine AllReadyH.cons (o := { dst := some 139, op := Op.call { callee := Callee.builtin Builtin.append, args := #[Operand.tmp 133, Operand.tmp 138], argTypes := #[26, 26] }, type := 26, pos := "markup.go:180", after := #[{ on := 0, ground := Ground.data }, { on := 5, ground := Ground.data }], guard := none }) rfl (fun K hK => ?_) ?_
                ·
                  (refine step_last (kk := lastK x.kind) (TT := lastT x.kind) (v := u13) (by rfl) (.tmp 133) (.tmp 138) (.tmp 136) (by rfl) (by rfl) (by rfl) (by rfl) (by repeat (first | exact kp_refl wr | with_reducible apply kp_alloc | with_reducible apply kp_lay | with_reducible apply kp_drew)) HP.out.1 (by first | (with_reducible refine heap_at ?_; first | rfl | (simp; done) | (simp [lay_size]; done)) | (with_reducible refine heap_up_lay ?_ _; (with_reducible refine heap_at ?_; first | rfl | (simp; done) | (simp [lay_size]; done))) | (with_reducible refine heap_up_alloc (heap_up_lay ?_ _) _; (with_reducible refine heap_at ?_; first | rfl | (simp; done) | (simp [lay_size]; done))) | (with_reducible refine heap_up_alloc ?_ _; (with_reducible refine heap_at ?_; first | rfl | (simp; done) | (simp [lay_size]; done)))) (by repeat (first | (with_reducible refine byt_last' _ _ _ ?_; first | rfl | (simp; done) | (simp [lay_size]; done)) | with_reducible apply Byt.alloc' | with_reducible apply Byt.lay' | with_reducible apply Byt.drew')) hPl2 hbse (by intro ad e; cases e; first | exact Nat.le_refl _ | (simp; done) | (simp; omega) | (simp [lay_size]; done) | (simp [lay_size]; omega)) ?_; intro v' w7 hHi hPc hKeep hKeepH hKk)
                  refine hK.out _ _ ?_ (fun hHeld5 => ?_)
                  · (try dsimp only); (first | exact XS.of HM.out.1 (kp_drew HKr.out) | exact XS.of HM.out.1 (kp_alloc (XS.k (x := x) (by assumption)) _) | exact XS.of HM.out.1 (kp_lay (XS.k (x := x) (by assumption)) _) | exact XS.of HM.out.1 (kp_call (XS.k (x := x) (by assumption)) (by assumption)) | exact XS.of HM.out.1 (hKk _ (XS.k (x := x) (by assumption)) hbz0))
                  clear hK K
                  clear hHeld4
                  try simp only [Act.put, List.setIfInBounds_toArray, List.set_cons_zero, List.set_cons_succ]
                  refine wpAnyH_ready (rs := [13]) (by kernel_rfl) (by simp) ?_
                  refine AllReadyH.cons (o := { dst := some 146, op := Op.call { callee := Callee.value (Operand.func 49), args := #[Operand.tmp 145], argTypes := #[74] }, type := 25, pos := "markup.go:180", after := #[{ on := 12, ground := Ground.data }, { on := 6, ground := Ground.chain }], guard := none }) rfl (fun K hK => ?_) ?_
                  ·
                    (go_simp; go_at_call 49; refine (join_3 (T1 := S) (T2 := x.text) (T3 := lastT x.kind) (by first | (with_reducible refine heap_at ?_; first | rfl | (simp; done) | (simp [lay_size]; done)) | (with_reducible refine hKeepH _ _ ?_; first | (with_reducible refine heap_at ?_; first | rfl | (simp; done) | (simp [lay_size]; done)) | (with_reducible refine heap_up_alloc ?_ _; (with_reducible refine heap_at ?_; first | rfl | (simp; done) | (simp [lay_size]; done))) | (with_reducible refine heap_up_lay ?_ _; (with_reducible refine heap_at ?_; first | rfl | (simp; done) | (simp [lay_size]; done))) | (with_reducible refine heap_up_alloc (heap_up_lay ?_ _) _; (with_reducible refine heap_at ?_; first | rfl | (simp; done) | (simp [lay_size]; done))))) (Byt.s (by repeat (first | with_reducible exact HB.out.1 | with_reducible refine hKeep _ _ _ ?_ | with_reducible apply Byt.alloc' | with_reducible apply Byt.lay' | with_reducible apply Byt.drew'))) ((HS.out.s1.kp HKw.out).kp (XS.k (x := x) (by assumption))) (Byt.s (by first | with_reducible exact Byt.alloc' (byt_last w7 lo x.kind) _ | skip; repeat (first | (with_reducible refine byt_last' _ _ _ ?_; first | rfl | (simp; done) | (simp [lay_size]; done)) | with_reducible refine hKeep _ _ _ ?_ | with_reducible apply Byt.alloc' | with_reducible apply Byt.lay' | with_reducible apply Byt.drew'))) HTT.out HL30.out).mono ?_; rintro e w8 ⟨⟨A9, c9, rfl, hS9, hG9, hF9⟩, hB9⟩; dsimp only)
                    refine hK.out _ _ ?_ (fun hHeld6 => ?_)
                    · (try dsimp only); (first | exact XS.of HM.out.1 (kp_drew HKr.out) | exact XS.of HM.out.1 (kp_alloc (XS.k (x := x) (by assumption)) _) | exact XS.of HM.out.1 (kp_lay (XS.k (x := x) (by assumption)) _) | exact XS.of HM.out.1 (kp_call (XS.k (x := x) (by assumption)) (by assumption)) | exact XS.of HM.out.1 (hKk _ (XS.k (x := x) (by assumption)) hbz0))
                    clear hK K
                    clear hHeld5
                    try simp only [Act.put, List.setIfInBounds_toArray, List.set_cons_zero, List.set_cons_succ]
                    refine wpAnyH_take (i := 14) (oi := { dst := some 2, op := Op.assign (Operand.tmp 139), type := 26, pos := "markup.go:180", after := #[{ on := 6, ground := Ground.data }, { on := 13, ground := Ground.chain }, { on := 0, ground := Ground.phase }, { on := 1, ground := Ground.phase }, { on := 2, ground := Ground.phase }, { on := 3, ground := Ground.phase }, { on := 4, ground := Ground.phase }, { on := 5, ground := Ground.phase }, { on := 6, ground := Ground.phase }, { on := 7, ground := Ground.textOnly Departure.lateStores }, { on := 8, ground := Ground.textOnly Departure.lateStores }, { on := 9, ground := Ground.textOnly Departure.lateStores }, { on := 10, ground := Ground.textOnly Departure.lateStores }, { on := 11, ground := Ground.textOnly Departure.lateStores }, { on := 12, ground := Ground.textOnly Departure.lateStores }, { on := 13, ground := Ground.textOnly Departure.lateStoresUnsure }], guard := none }) (v := ?_) rfl (by kernel_rfl) (by kernel_rfl) (by kernel_rfl) (fun _ _ _ h => h) (Or.inl ⟨by rfl, ?_⟩) (by assumption) ?_
                    rotate_left
                    · (intro w hSw; (try dsimp only at hSw); go_simp <;> with_reducible rfl)
                    try simp only [Act.put, List.setIfInBounds_toArray, List.set_cons_zero, List.set_cons_succ]
                    refine wpAnyH_take (i := 15) (oi := { dst := some 3, op := Op.assign (Operand.tmp 146), type := 25, pos := "markup.go:180", after := #[{ on := 13, ground := Ground.data }, { on := 14, ground := Ground.chain }, { on := 0, ground := Ground.phase }, { on := 1, ground := Ground.phase }, { on := 2, ground := Ground.phase }, { on := 3, ground := Ground.phase }, { on := 4, ground := Ground.phase }, { on := 5, ground := Ground.phase }, { on := 6, ground := Ground.phase }, { on := 7, ground := Ground.phase }, { on := 8, ground := Ground.phase }, { on := 9, ground := Ground.phase }, { on := 10, ground := Ground.phase }, { on := 11, ground := Ground.phase }, { on := 12, ground := Ground.phase }, { on := 13, ground := Ground.phase }, { on := 14, ground := Ground.phase }], guard := none }) (v := ?_) rfl (by kernel_rfl) (by kernel_rfl) (by kernel_rfl) (fun _ _ _ h => h) (Or.inl ⟨by rfl, ?_⟩) (by assumption) ?_
                    rotate_left
                    · (intro w hSw; (try dsimp only at hSw); go_simp <;> with_reducible rfl)
                    try simp only [Act.put, List.setIfInBounds_toArray, List.set_cons_zero, List.set_cons_succ]
                    refine wpAnyH_done (by kernel_rfl) ?_ _
                    have HFin : Hd (Pcs w8 lo (w.heap.size + 1) v' (P ++ [⟨lastK x.kind, _, lastT x.kind, _, none, [], 0, none, [], 0⟩]) ∧ Slc w8 A9 TT c9 ∧ Kp w w8) :=
                      ⟨Pcs.below (by first | with_reducible exact hPc | with_reducible exact hPc.alloc _ | with_reducible exact (hPc.grow (kp_lay (kp_refl _) _)).alloc _) hB9, hS9, kp_trans HKw.out (XS.k (x := x) (by assumption))⟩
                    have HTo2 := Hd.mk HTo.out
                    have HHf : Hd (His lo w.heap.size (P ++ [⟨lastK x.kind, _, lastT x.kind, _, none, [], 0, none, [], 0⟩])) := ⟨HIP.out.2.add fun y hy => by
                      obtain ⟨q1, q2, q3⟩ := hHi y hy
                      have hq : w.heap.size ≤ wr.heap.size := by omega
                      exact ⟨q1.mono hq, q2.mono hq, q3.mono hq⟩⟩
                    clear hHi hS9 hG9 hB9 hPc hKeep hKeepH hKk m1
                    go_wp2_with fail
                    go_ret2
                    exact ⟨⟨_, _, A9, c9, rfl, HFin.out.1.widen (Nat.le_succ _) HLw.out, by rw [List.map_append, HTo2.out, HD.out, ← HS0.out]; rfl, HFin.out.2.1, HHf.out⟩, HFin.out.2.2⟩
                  exact AllReadyH.nil
                exact AllReadyH.nil
              exact AllReadyH.nil
            refine AllReadyH.cons (o := { dst := some 145, op := Op.buildSlice 74 3 #[(0, Operand.tmp 140), (1, Operand.tmp 142), (2, Operand.tmp 144)], type := 74, pos := "markup.go:180", after := #[{ on := 7, ground := Ground.data }, { on := 9, ground := Ground.data }, { on := 11, ground := Ground.data }], guard := none }) rfl (fun K hK => ?_) ?_
            ·
              go_simp
              refine hK.out _ _ ?_ (fun hHeld3 => ?_)
              · (try dsimp only); (first | exact XS.of HM.out.1 (kp_drew HKr.out) | exact XS.of HM.out.1 (kp_alloc (XS.k (x := x) (by assumption)) _) | exact XS.of HM.out.1 (kp_lay (XS.k (x := x) (by assumption)) _) | exact XS.of HM.out.1 (kp_call (XS.k (x := x) (by assumption)) (by assumption)) | exact XS.of HM.out.1 (hKk _ (XS.k (x := x) (by assumption)) hbz0))
              clear hK K
              clear hHeld2
              try simp only [Act.put, List.setIfInBounds_toArray, List.set_cons_zero, List.set_cons_succ]
              refine wpAnyH_ready (rs := [5]) (by kernel_rfl) (by simp) ?_
              refine AllReadyH.cons (o := { dst := some 138, op := Op.buildSlice 26 1 #[(0, Operand.tmp 137)], type := 26, pos := "markup.go:180", after := #[{ on := 4, ground := Ground.data }], guard := none }) rfl (fun K hK => ?_) ?_
              ·
                go_simp
                refine hK.out _ _ ?_ (fun hHeld4 => ?_)
                · (try dsimp only); (first | exact XS.of HM.out.1 (kp_drew HKr.out) | exact XS.of HM.out.1 (kp_alloc (XS.k (x := x) (by assumption)) _) | exact XS.of HM.out.1 (kp_lay (XS.k (x := x) (by assumption)) _) | exact XS.of HM.out.1 (kp_call (XS.k (x := x) (by assumption)) (by assumption)) | exact XS.of HM.out.1 (hKk _ (XS.k (x := x) (by assumption)) hbz0))
                clear hK K
                clear hHeld3
                try simp only [Act.put, List.setIfInBounds_toArray, List.set_cons_zero, List.set_cons_succ]
                refine wpAnyH_ready (rs := [6]) (by kernel_rfl) (by simp) ?_
                refine AllReadyH.cons (o := { dst := some 139, op := Op.call { callee := Callee.builtin Builtin.append, args := #[Operand.tmp 133, Operand.tmp 138], argTypes := #[26, 26] }, type := 26, pos := "markup.go:180", after := #[{ on := 0, ground := Ground.data }, { on := 5, ground := Ground.data }], guard := none }) rfl (fun K hK => ?_) ?_
                ·
                  (refine step_last (kk := lastK x.kind) (TT := lastT x.kind) (v := u13) (by rfl) (.tmp 133) (.tmp 138) (.tmp 136) (by rfl) (by rfl) (by rfl) (by rfl) (by repeat (first | exact kp_refl wr | with_reducible apply kp_alloc | with_reducible apply kp_lay | with_reducible apply kp_drew)) HP.out.1 (by first | (with_reducible refine heap_at ?_; first | rfl | (simp; done) | (simp [lay_size]; done)) | (with_reducible refine heap_up_lay ?_ _; (with_reducible refine heap_at ?_; first | rfl | (simp; done) | (simp [lay_size]; done))) | (with_reducible refine heap_up_alloc (heap_up_lay ?_ _) _; (with_reducible refine heap_at ?_; first | rfl | (simp; done) | (simp [lay_size]; done))) | (with_reducible refine heap_up_alloc ?_ _; (with_reducible refine heap_at ?_; first | rfl | (simp; done) | (simp [lay_size]; done)))) (by repeat (first | (with_reducible refine byt_last' _ _ _ ?_; first | rfl | (simp; done) | (simp [lay_size]; done)) | with_reducible apply Byt.alloc' | with_reducible apply Byt.lay' | with_reducible apply Byt.drew')) hPl2 hbse (by intro ad e; cases e; first | exact Nat.le_refl _ | (simp; done) | (simp; omega) | (simp [lay_size]; done) | (simp [lay_size]; omega)) ?_; intro v' w7 hHi hPc hKeep hKeepH hKk)
                  refine hK.out _ _ ?_ (fun hHeld5 => ?_)
                  · (try dsimp only); (first | exact XS.of HM.out.1 (kp_drew HKr.out) | exact XS.of HM.out.1 (kp_alloc (XS.k (x := x) (by assumption)) _) | exact XS.of HM.out.1 (kp_lay (XS.k (x := x) (by assumption)) _) | exact XS.of HM.out.1 (kp_call (XS.k (x := x) (by assumption)) (by assumption)) | exact XS.of HM.out.1 (hKk _ (XS.k (x := x) (by assumption)) hbz0))
                  clear hK K
                  clear hHeld4
                  try simp only [Act.put, List.setIfInBounds_toArray, List.set_cons_zero, List.set_cons_succ]
                  refine wpAnyH_ready (rs := [13]) (by kernel_rfl) (by simp) ?_
                  refine AllReadyH.cons (o := { dst := some 146, op := Op.call { callee := Callee.value (Operand.func 49), args := #[Operand.tmp 145], argTypes := #[74] }, type := 25, pos := "markup.go:180", after := #[{ on := 12, ground := Ground.data }, { on := 6, ground := Ground.chain }], guard := none }) rfl (fun K hK => ?_) ?_
                  ·
                    (go_simp; go_at_call 49; refine (join_3 (T1 := S) (T2 := x.text) (T3 := lastT x.kind) (by first | (with_reducible refine heap_at ?_; first | rfl | (simp; done) | (simp [lay_size]; done)) | (with_reducible refine hKeepH _ _ ?_; first | (with_reducible refine heap_at ?_; first | rfl | (simp; done) | (simp [lay_size]; done)) | (with_reducible refine heap_up_alloc ?_ _; (with_reducible refine heap_at ?_; first | rfl | (simp; done) | (simp [lay_size]; done))) | (with_reducible refine heap_up_lay ?_ _; (with_reducible refine heap_at ?_; first | rfl | (simp; done) | (simp [lay_size]; done))) | (with_reducible refine heap_up_alloc (heap_up_lay ?_ _) _; (with_reducible refine heap_at ?_; first | rfl | (simp; done) | (simp [lay_size]; done))))) (Byt.s (by repeat (first | with_reducible exact HB.out.1 | with_reducible refine hKeep _ _ _ ?_ | with_reducible apply Byt.alloc' | with_reducible apply Byt.lay' | with_reducible apply Byt.drew'))) ((HS.out.s1.kp HKw.out).kp (XS.k (x := x) (by assumption))) (Byt.s (by first | with_reducible exact Byt.alloc' (byt_last w7 lo x.kind) _ | skip; repeat (first | (with_reducible refine byt_last' _ _ _ ?_; first | rfl | (simp; done) | (simp [lay_size]; done)) | with_reducible refine hKeep _ _ _ ?_ | with_reducible apply Byt.alloc' | with_reducible apply Byt.lay' | with_reducible apply Byt.drew'))) HTT.out HL30.out).mono ?_; rintro e w8 ⟨⟨A9, c9, rfl, hS9, hG9, hF9⟩, hB9⟩; dsimp only)
                    refine hK.out _ _ ?_ (fun hHeld6 => ?_)
                    · (try dsimp only); (first | exact XS.of HM.out.1 (kp_drew HKr.out) | exact XS.of HM.out.1 (kp_alloc (XS.k (x := x) (by assumption)) _) | exact XS.of HM.out.1 (kp_lay (XS.k (x := x) (by assumption)) _) | exact XS.of HM.out.1 (kp_call (XS.k (x := x) (by assumption)) (by assumption)) | exact XS.of HM.out.1 (hKk _ (XS.k (x := x) (by assumption)) hbz0))
                    clear hK K
                    clear hHeld5
                    try simp only [Act.put, List.setIfInBounds_toArray, List.set_cons_zero, List.set_cons_succ]
                    refine wpAnyH_take (i := 14) (oi := { dst := some 2, op := Op.assign (Operand.tmp 139), type := 26, pos := "markup.go:180", after := #[{ on := 6, ground := Ground.data }, { on := 13, ground := Ground.chain }, { on := 0, ground := Ground.phase }, { on := 1, ground := Ground.phase }, { on := 2, ground := Ground.phase }, { on := 3, ground := Ground.phase }, { on := 4, ground := Ground.phase }, { on := 5, ground := Ground.phase }, { on := 6, ground := Ground.phase }, { on := 7, ground := Ground.textOnly Departure.lateStores }, { on := 8, ground := Ground.textOnly Departure.lateStores }, { on := 9, ground := Ground.textOnly Departure.lateStores }, { on := 10, ground := Ground.textOnly Departure.lateStores }, { on := 11, ground := Ground.textOnly Departure.lateStores }, { on := 12, ground := Ground.textOnly Departure.lateStores }, { on := 13, ground := Ground.textOnly Departure.lateStoresUnsure }], guard := none }) (v := ?_) rfl (by kernel_rfl) (by kernel_rfl) (by kernel_rfl) (fun _ _ _ h => h) (Or.inl ⟨by rfl, ?_⟩) (by assumption) ?_
                    rotate_left
                    · (intro w hSw; (try dsimp only at hSw); go_simp <;> with_reducible rfl)
                    try simp only [Act.put, List.setIfInBounds_toArray, List.set_cons_zero, List.set_cons_succ]
                    refine wpAnyH_take (i := 15) (oi := { dst := some 3, op := Op.assign (Operand.tmp 146), type := 25, pos := "markup.go:180", after := #[{ on := 13, ground := Ground.data }, { on := 14, ground := Ground.chain }, { on := 0, ground := Ground.phase }, { on := 1, ground := Ground.phase }, { on := 2, ground := Ground.phase }, { on := 3, ground := Ground.phase }, { on := 4, ground := Ground.phase }, { on := 5, ground := Ground.phase }, { on := 6, ground := Ground.phase }, { on := 7, ground := Ground.phase }, { on := 8, ground := Ground.phase }, { on := 9, ground := Ground.phase }, { on := 10, ground := Ground.phase }, { on := 11, ground := Ground.phase }, { on := 12, ground := Ground.phase }, { on := 13, ground := Ground.phase }, { on := 14, ground := Ground.phase }], guard := none }) (v := ?_) rfl (by kernel_rfl) (by kernel_rfl) (by kernel_rfl) (fun _ _ _ h => h) (Or.inl ⟨by rfl, ?_⟩) (by assumption) ?_
                    rotate_left
                    · (intro w hSw; (try dsimp only at hSw); go_simp <;> with_reducible rfl)
                    try simp only [Act.put, List.setIfInBounds_toArray, List.set_cons_zero, List.set_cons_succ]
                    refine wpAnyH_done (by kernel_rfl) ?_ _
                    have HFin : Hd (Pcs w8 lo (w.heap.size + 1) v' (P ++ [⟨lastK x.kind, _, lastT x.kind, _, none, [], 0, none, [], 0⟩]) ∧ Slc w8 A9 TT c9 ∧ Kp w w8) :=
                      ⟨Pcs.below (by first | with_reducible exact hPc | with_reducible exact hPc.alloc _ | with_reducible exact (hPc.grow (kp_lay (kp_refl _) _)).alloc _) hB9, hS9, kp_trans HKw.out (XS.k (x := x) (by assumption))⟩
                    have HTo2 := Hd.mk HTo.out
                    have HHf : Hd (His lo w.heap.size (P ++ [⟨lastK x.kind, _, lastT x.kind, _, none, [], 0, none, [], 0⟩])) := ⟨HIP.out.2.add fun y hy => by
                      obtain ⟨q1, q2, q3⟩ := hHi y hy
                      have hq : w.heap.size ≤ wr.heap.size := by omega
                      exact ⟨q1.mono hq, q2.mono hq, q3.mono hq⟩⟩
                    clear hHi hS9 hG9 hB9 hPc hKeep hKeepH hKk m1
                    go_wp2_with fail
                    go_ret2
                    exact ⟨⟨_, _, A9, c9, rfl, HFin.out.1.widen (Nat.le_succ _) HLw.out, by rw [List.map_append, HTo2.out, HD.out, ← HS0.out]; rfl, HFin.out.2.1, HHf.out⟩, HFin.out.2.2⟩
                  exact AllReadyH.nil
                exact AllReadyH.nil
              exact AllReadyH.nil
            exact AllReadyH.nil
          refine AllReadyH.cons (o := { dst := some 145, op := Op.buildSlice 74 3 #[(0, Operand.tmp 140), (1, Operand.tmp 142), (2, Operand.tmp 144)], type := 74, pos := "markup.go:180", after := #[{ on := 7, ground := Ground.data }, { on := 9, ground := Ground.data }, { on := 11, ground := Ground.data }], guard := none }) rfl (fun K hK => ?_) ?_
          ·
            go_simp
            refine hK.out _ _ ?_ (fun hHeld2 => ?_)
            · (try dsimp only); (first | exact XS.of HM.out.1 (kp_drew HKr.out) | exact XS.of HM.out.1 (kp_alloc (XS.k (x := x) (by assumption)) _) | exact XS.of HM.out.1 (kp_lay (XS.k (x := x) (by assumption)) _) | exact XS.of HM.out.1 (kp_call (XS.k (x := x) (by assumption)) (by assumption)) | exact XS.of HM.out.1 (hKk _ (XS.k (x := x) (by assumption)) hbz0))
            clear hK K
            clear hHeld1
            try simp only [Act.put, List.setIfInBounds_toArray, List.set_cons_zero, List.set_cons_succ]
            refine wpAnyH_ready (rs := [3]) (by kernel_rfl) (by simp) ?_
            refine AllReadyH.cons (o := { dst := some 136, op := Op.convert 9 25 (Operand.tmp 135), type := 25, pos := "markup.go:180", after := #[{ on := 2, ground := Ground.data }], guard := none }) rfl (fun K hK => ?_) ?_
            ·
              go_simp
              refine hK.out _ _ ?_ (fun hHeld3 => ?_)
              · (try dsimp only); (first | exact XS.of HM.out.1 (kp_drew HKr.out) | exact XS.of HM.out.1 (kp_alloc (XS.k (x := x) (by assumption)) _) | exact XS.of HM.out.1 (kp_lay (XS.k (x := x) (by assumption)) _) | exact XS.of HM.out.1 (kp_call (XS.k (x := x) (by assumption)) (by assumption)) | exact XS.of HM.out.1 (hKk _ (XS.k (x := x) (by assumption)) hbz0))
              clear hK K
              clear hHeld2
              try simp only [Act.put, List.setIfInBounds_toArray, List.set_cons_zero, List.set_cons_succ]
              refine wpAnyH_take (i := 4) (oi := { dst := some 137, op := Op.build 36 #[(0, Operand.tmp 134), (1, Operand.tmp 136)], type := 36, pos := "markup.go:180", after := #[{ on := 1, ground := Ground.data }, { on := 3, ground := Ground.data }], guard := none }) (v := ?_) rfl (by kernel_rfl) (by kernel_rfl) (by kernel_rfl) (fun _ _ _ h => h) (Or.inl ⟨by rfl, ?_⟩) (by assumption) ?_
              rotate_left
              · (intro w hSw; (try dsimp only at hSw); go_simp <;> with_reducible rfl)
              try simp only [Act.put, List.setIfInBounds_toArray, List.set_cons_zero, List.set_cons_succ]
              refine wpAnyH_ready (rs := [5]) (by kernel_rfl) (by simp) ?_
              refine AllReadyH.cons (o := { dst := some 138, op := Op.buildSlice 26 1 #[(0, Operand.tmp 137)], type := 26, pos := "markup.go:180", after := #[{ on := 4, ground := Ground.data }], guard := none }) rfl (fun K hK => ?_) ?_
              ·
                go_simp
                refine hK.out _ _ ?_ (fun hHeld4 => ?_)
                · (try dsimp only); (first | exact XS.of HM.out.1 (kp_drew HKr.out) | exact XS.of HM.out.1 (kp_alloc (XS.k (x := x) (by assumption)) _) | exact XS.of HM.out.1 (kp_lay (XS.k (x := x) (by assumption)) _) | exact XS.of HM.out.1 (kp_call (XS.k (x := x) (by assumption)) (by assumption)) | exact XS.of HM.out.1 (hKk _ (XS.k (x := x) (by assumption)) hbz0))
                clear hK K
                clear hHeld3
                try simp only [Act.put, List.setIfInBounds_toArray, List.set_cons_zero, List.set_cons_succ]
                refine wpAnyH_ready (rs := [6]) (by kernel_rfl) (by simp) ?_
                refine AllReadyH.cons (o := { dst := some 139, op := Op.call { callee := Callee.builtin Builtin.append, args := #[Operand.tmp 133, Operand.tmp 138], argTypes := #[26, 26] }, type := 26, pos := "markup.go:180", after := #[{ on := 0, ground := Ground.data }, { on := 5, ground := Ground.data }], guard := none }) rfl (fun K hK => ?_) ?_
                ·
                  (refine step_last (kk := lastK x.kind) (TT := lastT x.kind) (v := u13) (by rfl) (.tmp 133) (.tmp 138) (.tmp 136) (by rfl) (by rfl) (by rfl) (by rfl) (by repeat (first | exact kp_refl wr | with_reducible apply kp_alloc | with_reducible apply kp_lay | with_reducible apply kp_drew)) HP.out.1 (by first | (with_reducible refine heap_at ?_; first | rfl | (simp; done) | (simp [lay_size]; done)) | (with_reducible refine heap_up_lay ?_ _; (with_reducible refine heap_at ?_; first | rfl | (simp; done) | (simp [lay_size]; done))) | (with_reducible refine heap_up_alloc (heap_up_lay ?_ _) _; (with_reducible refine heap_at ?_; first | rfl | (simp; done) | (simp [lay_size]; done))) | (with_reducible refine heap_up_alloc ?_ _; (with_reducible refine heap_at ?_; first | rfl | (simp; done) | (simp [lay_size]; done)))) (by repeat (first | (with_reducible refine byt_last' _ _ _ ?_; first | rfl | (simp; done) | (simp [lay_size]; done)) | with_reducible apply Byt.alloc' | with_reducible apply Byt.lay' | with_reducible apply Byt.drew')) hPl2 hbse (by intro ad e; cases e; first | exact Nat.le_refl _ | (simp; done) | (simp; omega) | (simp [lay_size]; done) | (simp [lay_size]; omega)) ?_; intro v' w7 hHi hPc hKeep hKeepH hKk)
                  refine hK.out _ _ ?_ (fun hHeld5 => ?_)
                  · (try dsimp only); (first | exact XS.of HM.out.1 (kp_drew HKr.out) | exact XS.of HM.out.1 (kp_alloc (XS.k (x := x) (by assumption)) _) | exact XS.of HM.out.1 (kp_lay (XS.k (x := x) (by assumption)) _) | exact XS.of HM.out.1 (kp_call (XS.k (x := x) (by assumption)) (by assumption)) | exact XS.of HM.out.1 (hKk _ (XS.k (x := x) (by assumption)) hbz0))
                  clear hK K
                  clear hHeld4
                  try simp only [Act.put, List.setIfInBounds_toArray, List.set_cons_zero, List.set_cons_succ]
                  refine wpAnyH_ready (rs := [13]) (by kernel_rfl) (by simp) ?_
                  refine AllReadyH.cons (o := { dst := some 146, op := Op.call { callee := Callee.value (Operand.func 49), args := #[Operand.tmp 145], argTypes := #[74] }, type := 25, pos := "markup.go:180", after := #[{ on := 12, ground := Ground.data }, { on := 6, ground := Ground.chain }], guard := none }) rfl (fun K hK => ?_) ?_
                  ·
                    (go_simp; go_at_call 49; refine (join_3 (T1 := S) (T2 := x.text) (T3 := lastT x.kind) (by first | (with_reducible refine heap_at ?_; first | rfl | (simp; done) | (simp [lay_size]; done)) | (with_reducible refine hKeepH _ _ ?_; first | (with_reducible refine heap_at ?_; first | rfl | (simp; done) | (simp [lay_size]; done)) | (with_reducible refine heap_up_alloc ?_ _; (with_reducible refine heap_at ?_; first | rfl | (simp; done) | (simp [lay_size]; done))) | (with_reducible refine heap_up_lay ?_ _; (with_reducible refine heap_at ?_; first | rfl | (simp; done) | (simp [lay_size]; done))) | (with_reducible refine heap_up_alloc (heap_up_lay ?_ _) _; (with_reducible refine heap_at ?_; first | rfl | (simp; done) | (simp [lay_size]; done))))) (Byt.s (by repeat (first | with_reducible exact HB.out.1 | with_reducible refine hKeep _ _ _ ?_ | with_reducible apply Byt.alloc' | with_reducible apply Byt.lay' | with_reducible apply Byt.drew'))) ((HS.out.s1.kp HKw.out).kp (XS.k (x := x) (by assumption))) (Byt.s (by first | with_reducible exact Byt.alloc' (byt_last w7 lo x.kind) _ | skip; repeat (first | (with_reducible refine byt_last' _ _ _ ?_; first | rfl | (simp; done) | (simp [lay_size]; done)) | with_reducible refine hKeep _ _ _ ?_ | with_reducible apply Byt.alloc' | with_reducible apply Byt.lay' | with_reducible apply Byt.drew'))) HTT.out HL30.out).mono ?_; rintro e w8 ⟨⟨A9, c9, rfl, hS9, hG9, hF9⟩, hB9⟩; dsimp only)
                    refine hK.out _ _ ?_ (fun hHeld6 => ?_)
                    · (try dsimp only); (first | exact XS.of HM.out.1 (kp_drew HKr.out) | exact XS.of HM.out.1 (kp_alloc (XS.k (x := x) (by assumption)) _) | exact XS.of HM.out.1 (kp_lay (XS.k (x := x) (by assumption)) _) | exact XS.of HM.out.1 (kp_call (XS.k (x := x) (by assumption)) (by assumption)) | exact XS.of HM.out.1 (hKk _ (XS.k (x := x) (by assumption)) hbz0))
                    clear hK K
                    clear hHeld5
                    try simp only [Act.put, List.setIfInBounds_toArray, List.set_cons_zero, List.set_cons_succ]
                    refine wpAnyH_take (i := 14) (oi := { dst := some 2, op := Op.assign (Operand.tmp 139), type := 26, pos := "markup.go:180", after := #[{ on := 6, ground := Ground.data }, { on := 13, ground := Ground.chain }, { on := 0, ground := Ground.phase }, { on := 1, ground := Ground.phase }, { on := 2, ground := Ground.phase }, { on := 3, ground := Ground.phase }, { on := 4, ground := Ground.phase }, { on := 5, ground := Ground.phase }, { on := 6, ground := Ground.phase }, { on := 7, ground := Ground.textOnly Departure.lateStores }, { on := 8, ground := Ground.textOnly Departure.lateStores }, { on := 9, ground := Ground.textOnly Departure.lateStores }, { on := 10, ground := Ground.textOnly Departure.lateStores }, { on := 11, ground := Ground.textOnly Departure.lateStores }, { on := 12, ground := Ground.textOnly Departure.lateStores }, { on := 13, ground := Ground.textOnly Departure.lateStoresUnsure }], guard := none }) (v := ?_) rfl (by kernel_rfl) (by kernel_rfl) (by kernel_rfl) (fun _ _ _ h => h) (Or.inl ⟨by rfl, ?_⟩) (by assumption) ?_
                    rotate_left
                    · (intro w hSw; (try dsimp only at hSw); go_simp <;> with_reducible rfl)
                    try simp only [Act.put, List.setIfInBounds_toArray, List.set_cons_zero, List.set_cons_succ]
                    refine wpAnyH_take (i := 15) (oi := { dst := some 3, op := Op.assign (Operand.tmp 146), type := 25, pos := "markup.go:180", after := #[{ on := 13, ground := Ground.data }, { on := 14, ground := Ground.chain }, { on := 0, ground := Ground.phase }, { on := 1, ground := Ground.phase }, { on := 2, ground := Ground.phase }, { on := 3, ground := Ground.phase }, { on := 4, ground := Ground.phase }, { on := 5, ground := Ground.phase }, { on := 6, ground := Ground.phase }, { on := 7, ground := Ground.phase }, { on := 8, ground := Ground.phase }, { on := 9, ground := Ground.phase }, { on := 10, ground := Ground.phase }, { on := 11, ground := Ground.phase }, { on := 12, ground := Ground.phase }, { on := 13, ground := Ground.phase }, { on := 14, ground := Ground.phase }], guard := none }) (v := ?_) rfl (by kernel_rfl) (by kernel_rfl) (by kernel_rfl) (fun _ _ _ h => h) (Or.inl ⟨by rfl, ?_⟩) (by assumption) ?_
                    rotate_left
                    · (intro w hSw; (try dsimp only at hSw); go_simp <;> with_reducible rfl)
                    try simp only [Act.put, List.setIfInBounds_toArray, List.set_cons_zero, List.set_cons_succ]
                    refine wpAnyH_done (by kernel_rfl) ?_ _
                    have HFin : Hd (Pcs w8 lo (w.heap.size + 1) v' (P ++ [⟨lastK x.kind, _, lastT x.kind, _, none, [], 0, none, [], 0⟩]) ∧ Slc w8 A9 TT c9 ∧ Kp w w8) :=
                      ⟨Pcs.below (by first | with_reducible exact hPc | with_reducible exact hPc.alloc _ | with_reducible exact (hPc.grow (kp_lay (kp_refl _) _)).alloc _) hB9, hS9, kp_trans HKw.out (XS.k (x := x) (by assumption))⟩
                    have HTo2 := Hd.mk HTo.out
                    have HHf : Hd (His lo w.heap.size (P ++ [⟨lastK x.kind, _, lastT x.kind, _, none, [], 0, none, [], 0⟩])) := ⟨HIP.out.2.add fun y hy => by
                      obtain ⟨q1, q2, q3⟩ := hHi y hy
                      have hq : w.heap.size ≤ wr.heap.size := by omega
                      exact ⟨q1.mono hq, q2.mono hq, q3.mono hq⟩⟩
                    clear hHi hS9 hG9 hB9 hPc hKeep hKeepH hKk m1
                    go_wp2_with fail
                    go_ret2
                    exact ⟨⟨_, _, A9, c9, rfl, HFin.out.1.widen (Nat.le_succ _) HLw.out, by rw [List.map_append, HTo2.out, HD.out, ← HS0.out]; rfl, HFin.out.2.1, HHf.out⟩, HFin.out.2.2⟩
                  exact AllReadyH.nil
                exact AllReadyH.nil
              exact AllReadyH.nil
            exact AllReadyH.nil
          exact AllReadyH.nil
        exact AllReadyH.nil
      | succ gk =>
        have hlt : k < x.attrs.length := by have := HK.out; omega
        have hil : (k : Int) < (x.attrs.length : Int) := by omega
        obtain ⟨y, hy⟩ : ∃ y, x.attrs[k]? = some y := ⟨_, List.getElem?_eq_getElem hlt⟩
        have HYk := Hd.mk hy
        have hym := List.mem_of_getElem? hy
        have HY := Hd.mk (HA.out.each y hym)
        have HYl := Hd.mk (HLA.out y hym)
        have HYg := Hd.mk (HGd.out.1 y.d (List.mem_map_of_mem hym))
        obtain ⟨b, o, eA3, g0, g1, g2, g3, g4, g5, _⟩ := (HA.out.below HKr.out).six k y hy
        rw [eA3]
        clear hy hym
        go_upto_region 27 with fail
        have HBS : Hd (BS y wr.heap.size W0 (wr.alloc y.box)) := ⟨BS.new HKr.out⟩
        have HBk : Hd (Kp wr (wr.alloc y.box) ∧ (wr.alloc y.box).heap[wr.heap.size]? = some y.box) := ⟨kp_alloc (kp_refl _) _, heap_new _ _⟩
        unfold AttrV.box at HBS HBk
        generalize wr.alloc (.cells #[.slice y.A1 y.d.before.length y.c1, .slice y.A2 y.d.name.length y.c2, .slice y.A3 y.d.ahead.length y.c3, .slice y.A4 y.d.behind.length y.c4, .slice y.A5 y.d.value.length y.c5, .int .i64 y.d.quote] 47) = W1 at HBS HBk ⊢
        generalize hgr : wr.heap.size = gy at HBS HBk ⊢
        have HP1 := Hd.mk (HP.out.1.grow HBk.out.1)
        have HB1 := Hd.mk (HB.out.1.kp HBk.out.1)
        have HN : Hd (∀ W, Kp W1 W → ∀ cs f, W.heap[gy]? ≠ some (.cells cs 36 f)) := ⟨fun W k => not36 HBk.out.2 (by decide) k⟩
        have hPl : P.length ≤ 1000000 := by
          have := congrArg List.length HP.out.2
          simp only [List.length_map, List.length_cons, List.length_take] at this
          have := HGd.out.2
          simp only [List.length_map] at this
          omega
        clear g0 g1 g2 g3 g4 g5 hgr
        go_cut [13] (fun v13 w' => ∃ P', Hd (Pcs w' lo (w.heap.size + 1) v13 P' ∧ P'.map Pc.told = P.map Pc.told ++ [attrDue y.d]) ∧ Hd (Byt w' lo A S c) ∧ Hd (BS y gy W0 w') ∧ Hd (His lo w.heap.size P'))
        case first =>
          obtain ⟨m0, m1, m2, m3, m4, m5, HKW⟩ := HBS.out
          have hPl2 : P.length + 1 ≤ 1000000000 := by omega
          have hbz : W0.heap.size ≤ w.heap.size + 1 := by have := HZ.out; omega
          have hbz2 : w.heap.size + 1 ≤ W1.heap.size := by have := alloc_le HKW.out; have := HZ.out; omega
          go_region_held3 (fun W => W.cell? ⟨gy, 0, none⟩ = some (.slice y.A1 y.d.before.length y.c1) ∧ W.cell? ⟨gy, 1, none⟩ = some (.slice y.A2 y.d.name.length y.c2) ∧ W.cell? ⟨gy, 2, none⟩ = some (.slice y.A3 y.d.ahead.length y.c3) ∧ W.cell? ⟨gy, 3, none⟩ = some (.slice y.A4 y.d.behind.length y.c4) ∧ W.cell? ⟨gy, 4, none⟩ = some (.slice y.A5 y.d.value.length y.c5) ∧ W.cell? ⟨gy, 5, none⟩ = some (.int .i64 y.d.quote) ∧ Hd (Kp W0 W)) (first | exact BS.drew HBS.out | exact BS.alloc (by assumption) _ | exact BS.call (by assumption) (by assumption) | exact BS.grown (by assumption) (Pcs.own (Pcs.alloc (((Pcs.drew HP1.out).below hB5).below hB6) _)) hbz hgrow (HN.out _ (kp_alloc (kp_call (kp_call (kp_drew (kp_refl W1)) hB5) hB6) _)))
            (first
              | (go_simp; go_at_call 50; refine (attribute_calls (html := html) y lo (HY.out.below (BS.k (by assumption))) HYl.out HYg.out).mono ?_; rintro e w2 ⟨⟨A5, c5, rfl, hS5, hG5, hH5⟩, hB5⟩; dsimp only)
              | (go_simp; go_at_call 51; refine (inQuotes_calls y lo (HY.out.below (BS.k (by assumption))) HYl.out HYg.out.2.2.2.2.2.2.1).mono ?_; rintro e w3 ⟨⟨A6, c6, rfl, hS6, hG6, hH6⟩, hB6⟩; dsimp only)
              | (refine step_app (v := u13) (vx := .slice (some ⟨w3.heap.size, 0, none⟩) 1 1) (by rfl) (.tmp 115) (.tmp 123) (by rfl) (w.heap.size + 1) P.length 1 (P.flatMap Pc.cells) (Pc.cells ⟨kAttribute, A5, attrT y.d, c5, y.A2, y.d.name, y.c2, A6, inQ y.d, c6⟩) (by rfl) (by rfl) (Pcs.own (Pcs.alloc (((Pcs.drew HP1.out).below hB5).below hB6) _)) (src_new rfl rfl) rfl (pc_one _) hPl2 (Nat.le_trans (Nat.le_trans (Nat.le_trans hbz2 hB5.size) hB6.size) (by rw [World.size_alloc]; exact Nat.le_succ _)) ?_; intro v' w4 hown hgrow))
          all_goals
            have HFin : Hd ((Pcs w4 lo (w.heap.size + 1) v' (P ++ [⟨kAttribute, A5, attrT y.d, c5, y.A2, y.d.name, y.c2, A6, inQ y.d, c6⟩])) ∧ Byt w4 lo A S c ∧ BS y gy W0 w4) :=
              ⟨(Pcs.alloc (((Pcs.drew HP1.out).below hB5).below hB6) _).add ⟨kAttribute, A5, attrT y.d, c5, y.A2, y.d.name, y.c2, A6, inQ y.d, c6⟩ ⟨(hG5.below hB6).below ((Below.refl _ _).alloc (Nat.le_refl _) _), ((HY.out.s2.below (kp_alloc (kp_call (kp_call (kp_drew HKW.out) hB5) hB6) _)).seg HYl.out.1), hG6.below ((Below.refl _ _).alloc (Nat.le_refl _) _)⟩ hown hgrow,
               (HB1.out.kp (kp_alloc (kp_call (kp_call (kp_drew (kp_refl W1)) hB5) hB6) _)).grown (Pcs.own (Pcs.alloc (((Pcs.drew HP1.out).below hB5).below hB6) _)) HP1.out.lob hgrow, by assumption⟩
            have HHf : Hd (His lo w.heap.size (P ++ [⟨kAttribute, A5, attrT y.d, c5, y.A2, y.d.name, y.c2, A6, inQ y.d, c6⟩])) := ⟨HIP.out.2.add (His.one (hH5.mono (Nat.le_trans (by omega) (alloc_le (kp_drew (kp_refl W1))))) (Hi.low HYl.out.1) (hH6.mono (Nat.le_trans (by omega) (alloc_le (kp_call (kp_drew (kp_refl W1)) hB5)))))⟩
            clear hH5 hH6 hown hgrow hB5 hB6 hS5 hS6 hG5 hG6 m0 m1 m2 m3 m4 m5
            go_wp2_with fail
            go_meet
            case rel => exact ⟨P ++ [⟨kAttribute, A5, attrT y.d, c5, y.A2, y.d.name, y.c2, A6, inQ y.d, c6⟩], ⟨HFin.out.1, by rw [List.map_append]; rfl⟩, ⟨HFin.out.2.1⟩, ⟨HFin.out.2.2⟩, HHf⟩
        case rest =>
          obtain ⟨P', HP', HB', HBS', HIP'⟩ := hcut
          have HPt := Hd.mk HP.out.2
          have HSt := Hd.mk HB.out.2
          clear HP1 HB1 HBS HBk HN HP HB HKr
          have HL28 : Hd ((S ++ (y.d.before ++ attrT y.d)).length ≤ 1000000) := ⟨by
            have h1 := HTL.out
            have h2 := attrT_len HYg.out
            have h3 := attrsT_take_len x.attrs k
            have h4 : S0.length = (startT x.kind).length + x.name.length := by rw [← HS0.out, List.length_append]
            rw [HSt.out]
            simp only [List.length_append] at h1 h2 ⊢
            omega⟩
          go_upto_region 28 with fail
          obtain ⟨m0, m1, m2, m3, m4, m5, HKW⟩ := HBS'.out
          go_region_held3 (fun W => W.cell? ⟨gy, 0, none⟩ = some (.slice y.A1 y.d.before.length y.c1) ∧ W.cell? ⟨gy, 1, none⟩ = some (.slice y.A2 y.d.name.length y.c2) ∧ W.cell? ⟨gy, 2, none⟩ = some (.slice y.A3 y.d.ahead.length y.c3) ∧ W.cell? ⟨gy, 3, none⟩ = some (.slice y.A4 y.d.behind.length y.c4) ∧ W.cell? ⟨gy, 4, none⟩ = some (.slice y.A5 y.d.value.length y.c5) ∧ W.cell? ⟨gy, 5, none⟩ = some (.int .i64 y.d.quote) ∧ Hd (Kp W0 W)) (first | exact BS.drew HBS'.out | exact BS.alloc (by assumption) _ | exact BS.call (by assumption) (by assumption))
            (first
              | (go_simp; go_at_call 50; refine (attribute_calls (html := html) y lo (HY.out.below (BS.k (by assumption))) HYl.out HYg.out).mono ?_; rintro e w5 ⟨⟨A7, c7, rfl, hS7, hG7, hH7⟩, hB7⟩; dsimp only)
              | (go_simp; go_at_call 49; refine (join_3 (T1 := S) (T2 := y.d.before) (T3 := attrT y.d) (heap_new _ _) (HB'.out.kp (kp_alloc (kp_call (kp_drew (kp_refl wc)) hB7) _)).s (HY.out.s1.below (BS.k (by assumption))) (hS7.alloc _) rfl HL28.out).mono ?_; rintro e w6 ⟨⟨A8, c8, rfl, hS8, hG8, hF8⟩, hB8⟩; dsimp only))
          all_goals
            have HFin : Hd (Byt w6 lo A8 (S ++ (y.d.before ++ attrT y.d)) c8 ∧ Pcs w6 lo (w.heap.size + 1) u13 P' ∧ Kp W0 w6) :=
              ⟨⟨hS8, hG8 lo⟩, (Pcs.alloc ((Pcs.drew HP'.out.1).below hB7) _).below hB8, BS.k (by assumption)⟩
            have HTo : Hd (P'.map Pc.told = (startK x.kind, S0, x.name, []) :: ((x.attrs.take (k + 1)).map AttrV.d).map attrDue) := ⟨by rw [HP'.out.2, HPt.out, dues_take HYk.out]; rfl⟩
            have HSo : Hd (S ++ (y.d.before ++ attrT y.d) = S0 ++ attrsT ((x.attrs.take (k + 1)).map AttrV.d)) := ⟨by rw [HSt.out, attrsT_take HYk.out, List.append_assoc]⟩
            have HH8 : Hd (Hi lo w.heap.size A8 (S ++ (y.d.before ++ attrT y.d))) := ⟨(hi_of (lo := lo) (kp_alloc (kp_call (kp_drew (kp_refl wc)) hB7) _) hF8).mono (by have := alloc_le HBS'.out.k; have := HZ.out; omega)⟩
            clear hH7 hF8 hS7 hG7 hS8 hG8 hB7 hB8 m0 m1 m2 m3 m4 m5
            go_wp2_with fail
            rw [← eA3]
            go_roundg gk
            case measure => exact Nat.lt_succ_self _
            case rel => exact ⟨k + 1, A8, S ++ (y.d.before ++ attrT y.d), c8, P', by simp, by go_num, ⟨by have := HK.out; omega⟩, ⟨HFin.out.1, HSo.out⟩, ⟨HFin.out.2.1, HTo.out⟩, ⟨HFin.out.2.2⟩, ⟨HH8.out, HIP'.out⟩⟩
end Go.Proofs.YtfcedenofbefcaaGreatDoor
