import Derived.Test.YtfcedenofbefcaaGreatDoorW6
import Derived.Test.YtfcedenofbefcaaGreatDoorR2
import Derived.Deep.Slices
namespace Go.Proofs.YtfcedenofbefcaaGreatDoor
set_option linter.unusedVariables false
open Go.ChangeShapes Go.WideShapes Go.ChangeAt Go.RowKit Go.Deep
theorem Tryz.bytes5 : Tryz.prog.bytesOf 5 = 1 := by kernel_rfl
theorem Tryz.cells2 : Tryz.prog.cellsOf 2 = 1 := by kernel_rfl
theorem Tryz.cells25 : Tryz.prog.cellsOf 25 = 1 := by kernel_rfl
theorem Tryz.cells41 : Tryz.prog.cellsOf 41 = 1 := by kernel_rfl
theorem Tryz.cells43 : Tryz.prog.cellsOf 43 = 4 := by kernel_rfl
theorem Tryz.cells47 : Tryz.prog.cellsOf 47 = 6 := by kernel_rfl
theorem Tryz.bytes47 : 1 ≤ Tryz.prog.bytesOf 47 := of_decide_eq_true (by kernel_rfl)
theorem Tryz.bytes43 : 1 ≤ Tryz.prog.bytesOf 43 := of_decide_eq_true (by kernel_rfl)
section
variable {H : Type} {enc : TypeId × Value → H} {W : World}
/-- No weight is out of reach. -/
def Wt {H : Type} (t : TypeId) (d : DataW H) : Prop := ∀ n ∈ d.weights Tryz.prog t, n ≤ reachBytes
theorem wtAll {e : TypeId} : ∀ {l : List (DataW H)} {d : DataW H}, d ∈ l → ∀ n ∈ d.weights Tryz.prog e, n ∈ DataW.weightsAll Tryz.prog e l
  | [], _, h, _, _ => by simp at h
  | x :: l, d, h, n, hn => by
    unfold DataW.weightsAll
    rcases List.mem_cons.mp h with rfl | h
    · exact List.mem_append_left _ hn
    · exact List.mem_append_right _ (wtAll h n hn)
theorem wtEach : ∀ {ts : List TypeId} {l : List (DataW H)} (i : Nat) {t : TypeId} {d : DataW H}, ts[i]? = some t → l[i]? = some d → ∀ n ∈ d.weights Tryz.prog t, n ∈ DataW.weightsEach Tryz.prog ts l
  | [], _, i, _, _, h, _, _, _ => by simp at h
  | _ :: _, [], i, _, _, _, h, _, _ => by simp at h
  | t :: ts, d :: l, 0, t', d', h, h', n, hn => by
    simp at h h'
    subst h h'
    unfold DataW.weightsEach
    exact List.mem_append_left _ hn
  | t :: ts, d :: l, i + 1, t', d', h, h', n, hn => by
    unfold DataW.weightsEach
    exact List.mem_append_right _ (wtEach i (by simpa using h) (by simpa using h') n hn)
theorem spotless {a : Addr} {u : Value} (h : W.cell? a = some u) : a = ⟨a.block, a.off, none⟩ := by
  obtain ⟨b, o, s⟩ := a
  cases s with
  | none => rfl
  | some s =>
    unfold World.cell? at h
    split at h <;> simp at h
theorem row_cells {a : Addr} {k : Nat} {cs : List Value} (h : W.cells? 0 a k = some cs) : cs.length = k ∧ ∀ j u, cs[j]? = some u → W.cell? (a.add j) = some u := by
  unfold World.cells? at h
  rw [if_pos (Nat.zero_le _)] at h
  have hl := mapM_some_length h
  rw [List.length_range] at hl
  refine ⟨hl, fun j u hu => ?_⟩
  have hj : j < k := by rw [← hl]; exact (List.getElem?_eq_some_iff.mp hu).1
  have := mapM_some_get h j j (by simp [hj])
  rw [this, hu]
theorem slc_in {fuel : Nat} {cs : List Value} {x : DataW H × List MemPlace} (h : DataW.trod enc Tryz.prog W 0 (fun _ => true) true fuel 25 cs = some x) (hw : Wt 25 x.1) : ∃ A T c, cs = [.slice A T.length c] ∧ Slc W A T c := by
  rcases open_ints Tryz.underlying25 Tryz.underlying5 Tryz.cells5 h with ⟨rfl, rfl⟩ | ⟨a, len, cap, zs, rfl, _, hl, hm, hz, rfl, hcell, hwz⟩
  · exact ⟨none, [], 0, rfl, ⟨⟨by decide, fun h => absurd h (by decide)⟩, Nat.le_refl _, fun _ => rfl⟩⟩
  · simp only [if_true] at hz
    have hlen : (zs.take len).length = len := by rw [List.length_take]; omega
    have hsz : zs.length ≤ reachBytes := by
      refine hw _ ?_
      simp only [DataW.weights, Tryz.underlying25, Tryz.bytes5, List.mem_cons, lits, List.length_map, List.length_take, List.length_drop, Nat.mul_one]
      left
      omega
    unfold reachBytes at hsz
    have hget : ∀ j, j < len → (zs.take len).getD j 0 = zs.getD j 0 := fun j hj => by
      rw [List.getD_eq_getElem?_getD, List.getD_eq_getElem?_getD, List.getElem?_take, if_pos hj]
    refine ⟨some a, zs.take len, cap, by rw [hlen], ⟨⟨by rw [hlen]; omega, fun h0 => ?_⟩, by rw [hlen]; exact hl, fun e => by cases e⟩⟩
    rw [hlen] at h0
    have h00 := hcell 0 (by omega)
    have ea : a = ⟨a.block, a.off, none⟩ := by
      have := spotless h00
      obtain ⟨b, o, s⟩ := a
      unfold Addr.add at this
      simpa using this
    refine ⟨a.block, a.off, by rw [← ea], fun j hj => ?_⟩
    rw [hlen] at hj
    rw [hget j hj]
    have := hcell j (by omega)
    rw [ea, addr_add] at this
    exact this
theorem list4 {α : Type} {l : List α} (h : l.length = 4) : ∃ a b c d, l = [a, b, c, d] := by
  match l, h with
  | [a, b, c, d], _ => exact ⟨a, b, c, d, rfl⟩
theorem list6 {α : Type} {l : List α} (h : l.length = 6) : ∃ a b c d e f, l = [a, b, c, d, e, f] := by
  match l, h with
  | [a, b, c, d, e, f], _ => exact ⟨a, b, c, d, e, f, rfl⟩
theorem one_drop {cs : List Value} {o k : Nat} {v : Value} (h : (cs.drop o).take 1 = [v]) : cs[o]? = some v := by
  have := congrArg (·[0]?) h
  simpa [List.getElem?_take, List.getElem?_drop] using this
set_option maxRecDepth 100000 in
theorem attr_in {fuel : Nat} {cs : List Value} {x : DataW H × List MemPlace} (h : DataW.trod enc Tryz.prog W 0 (fun _ => true) true fuel 47 cs = some x) (hw : Wt 47 x.1) : ∃ y : AttrV, cs = y.vals ∧ y.In W := by
  obtain ⟨xs, n, _, rfl, hl, hlen, hf⟩ := DataW.trod_struct Tryz.underlying47 h
  rw [Tryz.cells47] at hl
  have hwe : ∀ i t d, [25, 25, 25, 25, 25, 2][i]? = some t → (xs.map (·.1))[i]? = some d → Wt t d := fun i t d h1 h2 n hn => hw n (by
    simp only [DataW.weights, Tryz.underlying47]
    exact wtEach i (by simpa using h1) h2 n hn)
  obtain ⟨c0, c1, c2, c3, c4, c5, rfl⟩ := list6 hl
  obtain ⟨y0, y1, y2, y3, y4, y5, rfl⟩ := list6 hlen
  · skip
    have t0 : DataW.trod enc Tryz.prog W 0 (fun _ => true) true n 25 [c0] = some y0 := by
      have t := hf 0 { name := "Before", type := 25, offset := 0, embedded := false, tag := "", pkgPath := "", byteOffset := 0 } rfl
      dsimp only at t
      rw [Tryz.cells25] at t
      exact t
    have t1 : DataW.trod enc Tryz.prog W 0 (fun _ => true) true n 25 [c1] = some y1 := by
      have t := hf 1 { name := "Name", type := 25, offset := 1, embedded := false, tag := "", pkgPath := "", byteOffset := 24 } rfl
      dsimp only at t
      rw [Tryz.cells25] at t
      exact t
    have t2 : DataW.trod enc Tryz.prog W 0 (fun _ => true) true n 25 [c2] = some y2 := by
      have t := hf 2 { name := "Ahead", type := 25, offset := 2, embedded := false, tag := "", pkgPath := "", byteOffset := 48 } rfl
      dsimp only at t
      rw [Tryz.cells25] at t
      exact t
    have t3 : DataW.trod enc Tryz.prog W 0 (fun _ => true) true n 25 [c3] = some y3 := by
      have t := hf 3 { name := "Behind", type := 25, offset := 3, embedded := false, tag := "", pkgPath := "", byteOffset := 72 } rfl
      dsimp only at t
      rw [Tryz.cells25] at t
      exact t
    have t4 : DataW.trod enc Tryz.prog W 0 (fun _ => true) true n 25 [c4] = some y4 := by
      have t := hf 4 { name := "Value", type := 25, offset := 4, embedded := false, tag := "", pkgPath := "", byteOffset := 96 } rfl
      dsimp only at t
      rw [Tryz.cells25] at t
      exact t
    have t5 : DataW.trod enc Tryz.prog W 0 (fun _ => true) true n 2 [c5] = some y5 := by
      have t := hf 5 { name := "Quote", type := 2, offset := 5, embedded := false, tag := "", pkgPath := "", byteOffset := 120 } rfl
      dsimp only at t
      rw [Tryz.cells2] at t
      exact t
    obtain ⟨A1, T1, k1, e1, s1⟩ := slc_in t0 (hwe 0 _ _ rfl rfl)
    obtain ⟨A2, T2, k2, e2, s2⟩ := slc_in t1 (hwe 1 _ _ rfl rfl)
    obtain ⟨A3, T3, k3, e3, s3⟩ := slc_in t2 (hwe 2 _ _ rfl rfl)
    obtain ⟨A4, T4, k4, e4, s4⟩ := slc_in t3 (hwe 3 _ _ rfl rfl)
    obtain ⟨A5, T5, k5, e5, s5⟩ := slc_in t4 (hwe 4 _ _ rfl rfl)
    obtain ⟨q, e6, _, _⟩ := DataW.trod_int Tryz.underlying2 t5
    simp only [List.cons.injEq, and_true] at e1 e2 e3 e4 e5 e6
    subst e1 e2 e3 e4 e5 e6
    exact ⟨⟨A1, A2, A3, A4, A5, k1, k2, k3, k4, k5, ⟨T1, T2, T3, T4, T5, q⟩⟩, rfl, ⟨s1, s2, s3, s4, s5⟩⟩
/-- A row of structs of k cells, opened. -/
theorem row_in {α : Type} [Inhabited α] {t e : TypeId} {z : Nat} (ht : Tryz.prog.underlying t = some (.slice e)) (hz : Tryz.prog.cellsOf e = z) (hz0 : 0 < z) (hb : 1 ≤ Tryz.prog.bytesOf e) (vals : α → List Value) (In : α → Prop) (hv : ∀ y, (vals y).length = z)
    (each : ∀ (n : Nat) (cs : List Value) (x : DataW H × List MemPlace), DataW.trod enc Tryz.prog W 0 (fun _ => true) true n e cs = some x → Wt e x.1 → ∃ y, cs = vals y ∧ In y)
    {fuel : Nat} {cs : List Value} {x : DataW H × List MemPlace} (h : DataW.trod enc Tryz.prog W 0 (fun _ => true) true fuel t cs = some x) (hw : Wt t x.1) :
    ∃ (A : Option Addr) (l : List α) (c : Nat), cs = [.slice A l.length c] ∧ l.length ≤ 140737488355328 ∧ (0 < l.length → ∃ b o, A = some ⟨b, o, none⟩ ∧ ∀ i x, l[i]? = some x → ∀ j u, (vals x)[j]? = some u → W.cell? ⟨b, o + i * z + j, none⟩ = some u) ∧ ∀ x ∈ l, In x := by
  rcases open_slice ht h with ⟨rfl, rfl⟩ | ⟨a, len, cap, m, n, D, Pl, rfl, _, hl, hm, hmm, rfl, hx⟩
  · exact ⟨none, [], 0, rfl, Nat.zero_le _, fun h => absurd h (Nat.lt_irrefl 0), fun x hx => by cases hx⟩
  · simp only [if_true] at hmm
    subst hmm
    have hwd : ∀ i, i < len → Wt e (D i) := fun i hi k hk => hw k (by
      simp only [DataW.weights, ht]
      exact List.mem_cons_of_mem _ (List.mem_append_left _ (wtAll (List.mem_map_of_mem (List.mem_range.mpr hi)) k hk)))
    have hsz : len ≤ reachBytes := by
      have h1 : (len + (m - len)) * Tryz.prog.bytesOf e ≤ reachBytes := hw _ (by
        simp only [DataW.weights, ht, List.length_map, List.length_range]
        exact List.mem_cons_self)
      have h2 : len + (m - len) ≤ (len + (m - len)) * Tryz.prog.bytesOf e := Nat.le_mul_of_pos_right _ (by omega)
      omega
    obtain ⟨f, hf⟩ := choose_lt (α := α) (n := len) (p := fun i y => W.cells? 0 (a.add (i * z)) z = some (vals y) ∧ In y) (fun i hi => by
      obtain ⟨cs', h1, h2⟩ := hx i (by omega)
      obtain ⟨y, rfl, hy⟩ := each n cs' _ h2 (hwd i hi)
      rw [hz] at h1
      exact ⟨y, h1, hy⟩)
    refine ⟨some a, (List.range len).map f, m, by simp, by simp; unfold reachBytes at hsz; omega, fun h0 => ?_, fun y hy => ?_⟩
    · simp only [List.length_map, List.length_range] at h0
      have c0 := (row_cells (hf 0 h0).1).2
      have hv0 := hv (f 0)
      obtain ⟨u, hu⟩ : ∃ u, (vals (f 0))[0]? = some u := ⟨_, List.getElem?_eq_getElem (by omega)⟩
      have ea : a = ⟨a.block, a.off, none⟩ := by
        have := spotless (c0 0 u hu)
        rw [add_add] at this
        obtain ⟨b, o, s⟩ := a
        unfold Addr.add at this
        simpa using this
      refine ⟨a.block, a.off, by rw [← ea], fun i y hi j u hu => ?_⟩
      rw [List.getElem?_map, Option.map_eq_some_iff] at hi
      obtain ⟨i', hi', rfl⟩ := hi
      have hil : i < len := by have := (List.getElem?_eq_some_iff.mp hi').1; simpa using this
      rw [List.getElem?_range hil] at hi'
      cases hi'
      have := (row_cells (hf i hil).1).2 j u hu
      rw [ea, addr_add, addr_add] at this
      exact this
    · obtain ⟨i, hi, rfl⟩ := List.mem_map.mp hy
      exact (hf i (List.mem_range.mp hi)).2
instance : Inhabited AttrV := ⟨⟨none, none, none, none, none, 0, 0, 0, 0, 0, ⟨[], [], [], [], [], 0⟩⟩⟩
instance : Inhabited ItemV := ⟨⟨0, none, none, none, 0, 0, 0, [], [], []⟩⟩
theorem attrs_in {fuel : Nat} {cs : List Value} {x : DataW H × List MemPlace} (h : DataW.trod enc Tryz.prog W 0 (fun _ => true) true fuel 41 cs = some x) (hw : Wt 41 x.1) : ∃ A l c, cs = [.slice A l.length c] ∧ AttrsAt W A l := by
  obtain ⟨A, l, c, rfl, h1, h2, h3⟩ := row_in (e := 47) (z := 6) Tryz.underlying41 Tryz.cells47 (by decide) Tryz.bytes47 AttrV.vals (fun y => y.In W) (fun _ => rfl) (fun n cs x h hw => attr_in h hw) h hw
  exact ⟨A, l, c, rfl, ⟨h1, h2, h3⟩⟩
set_option maxRecDepth 100000 in
theorem item_in {fuel : Nat} {cs : List Value} {x : DataW H × List MemPlace} (h : DataW.trod enc Tryz.prog W 0 (fun _ => true) true fuel 43 cs = some x) (hw : Wt 43 x.1) : ∃ y : ItemV, cs = y.vals ∧ y.In W := by
  obtain ⟨xs, n, _, rfl, hl, hlen, hf⟩ := DataW.trod_struct Tryz.underlying43 h
  rw [Tryz.cells43] at hl
  have hwe : ∀ i t d, [2, 25, 25, 41][i]? = some t → (xs.map (·.1))[i]? = some d → Wt t d := fun i t d h1 h2 n hn => hw n (by
    simp only [DataW.weights, Tryz.underlying43]
    exact wtEach i (by simpa using h1) h2 n hn)
  obtain ⟨c0, c1, c2, c3, rfl⟩ := list4 hl
  obtain ⟨y0, y1, y2, y3, rfl⟩ := list4 hlen
  · skip
    have t0 : DataW.trod enc Tryz.prog W 0 (fun _ => true) true n 2 [c0] = some y0 := by
      have t := hf 0 { name := "Kind", type := 2, offset := 0, embedded := false, tag := "", pkgPath := "", byteOffset := 0 } rfl
      dsimp only at t
      rw [Tryz.cells2] at t
      exact t
    have t1 : DataW.trod enc Tryz.prog W 0 (fun _ => true) true n 25 [c1] = some y1 := by
      have t := hf 1 { name := "Text", type := 25, offset := 1, embedded := false, tag := "", pkgPath := "", byteOffset := 8 } rfl
      dsimp only at t
      rw [Tryz.cells25] at t
      exact t
    have t2 : DataW.trod enc Tryz.prog W 0 (fun _ => true) true n 25 [c2] = some y2 := by
      have t := hf 2 { name := "Name", type := 25, offset := 2, embedded := false, tag := "", pkgPath := "", byteOffset := 32 } rfl
      dsimp only at t
      rw [Tryz.cells25] at t
      exact t
    have t3 : DataW.trod enc Tryz.prog W 0 (fun _ => true) true n 41 [c3] = some y3 := by
      have t := hf 3 { name := "Attributes", type := 41, offset := 3, embedded := false, tag := "", pkgPath := "", byteOffset := 56 } rfl
      dsimp only at t
      rw [Tryz.cells41] at t
      exact t
    obtain ⟨q, e0, _, _⟩ := DataW.trod_int Tryz.underlying2 t0
    obtain ⟨A1, T1, k1, e1, s1⟩ := slc_in t1 (hwe 1 _ _ rfl rfl)
    obtain ⟨A2, T2, k2, e2, s2⟩ := slc_in t2 (hwe 2 _ _ rfl rfl)
    obtain ⟨A3, l3, k3, e3, s3⟩ := attrs_in t3 (hwe 3 _ _ rfl rfl)
    simp only [List.cons.injEq, and_true] at e0 e1 e2 e3
    subst e0 e1 e2 e3
    exact ⟨⟨q, A1, A2, A3, k1, k2, k3, T1, T2, l3⟩, rfl, ⟨s1, s2, s3⟩⟩
/-- A slice of items that is handed in. -/
theorem items_in {v0 : Value} {d0 : DataW H} {p : List MemPlace} (h0 : DataW.Trod enc Tryz.prog W 0 (fun _ => true) true 22 v0 d0 p) (hw : (DataW.weights Tryz.prog 22 d0).all (· ≤ reachBytes) = true) (hc : v0.cells.toList = [v0]) :
    ∃ (A : Option Addr) (l : List ItemV) (cp : Nat), v0 = .slice A l.length cp ∧ ItemsAt W A l := by
  obtain ⟨fuel, hf⟩ := h0
  rw [hc] at hf
  obtain ⟨A, l, c, e, h1, h2, h3⟩ := row_in (e := 43) (z := 4) Tryz.underlying22 Tryz.cells43 (by decide) Tryz.bytes43 ItemV.vals (fun y => y.In W) (fun _ => rfl) (fun n cs x h hw => item_in h hw) hf (fun n hn => by simpa using List.all_eq_true.mp hw n hn)
  exact ⟨A, l, c, by simpa using e, ⟨h1, h2, h3⟩⟩
end
end Go.Proofs.YtfcedenofbefcaaGreatDoor
