import Derived.Test.YteonakpgenkhkaaDoorL3
import Derived.Lib.ValidLaws
import Derived.Lib.EndianBits
import Derived.Laws.BitsAllLaws
import Derived.Lib.DecodeN
import Derived.Shelf.Unicode.DecodeSlow
namespace Go.Proofs.YteonakpgenkhkaaDoor
open Go.RowKit
set_option linter.unusedVariables false
set_option linter.unusedSimpArgs false
set_option maxHeartbeats 8000000 in
set_option maxRecDepth 100000 in
theorem word_calls {w : World} {b o : Nat} {n c : Nat} (h : 8 ≤ n) (x0 x1 x2 x3 x4 x5 x6 x7 : UInt8)
    (c0 : w.cell? ⟨b, o, none⟩ = some (.int .u8 x0.toNat)) (c1 : w.cell? ⟨b, o + 1, none⟩ = some (.int .u8 x1.toNat)) (c2 : w.cell? ⟨b, o + 2, none⟩ = some (.int .u8 x2.toNat)) (c3 : w.cell? ⟨b, o + 3, none⟩ = some (.int .u8 x3.toNat))
    (c4 : w.cell? ⟨b, o + 4, none⟩ = some (.int .u8 x4.toNat)) (c5 : w.cell? ⟨b, o + 5, none⟩ = some (.int .u8 x5.toNat)) (c6 : w.cell? ⟨b, o + 6, none⟩ = some (.int .u8 x6.toNat)) (c7 : w.cell? ⟨b, o + 7, none⟩ = some (.int .u8 x7.toNat)) :
    Calls Tryd.prog 73 #[.slice (some ⟨b, o, none⟩) n c] w fun e w' => e = .returned (.int .u64 (Lib.leNat [x0, x1, x2, x3, x4, x5, x6, x7])) ∧ ∃ q, w' = w.drewN q := by
  have h0 : x0.toNat < 256 := x0.toNat_lt
  have h1 : x1.toNat < 256 := x1.toNat_lt
  have h2 : x2.toNat < 256 := x2.toNat_lt
  have h3 : x3.toNat < 256 := x3.toNat_lt
  have h4 : x4.toNat < 256 := x4.toNat_lt
  have h5 : x5.toNat < 256 := x5.toNat_lt
  have h6 : x6.toNat < 256 := x6.toNat_lt
  have h7 : x7.toNat < 256 := x7.toNat_lt
  have hv : ((Lib.leNat [x0, x1, x2, x3, x4, x5, x6, x7] : Nat) : Int) = (x0.toNat : Int) + (x1.toNat : Int) * 256 + (x2.toNat : Int) * 65536 + (x3.toNat : Int) * 16777216 + (x4.toNat : Int) * 4294967296 + (x5.toNat : Int) * 1099511627776 + (x6.toNat : Int) * 281474976710656 + (x7.toNat : Int) * 72057594037927936 := by
    simp only [Lib.leNat]
    push_cast
    omega
  have HV := Hd.mk hv
  clear hv
  have q0 : (0 : Int) < (n : Int) := by omega
  have q1 : (1 : Int) < (n : Int) := by omega
  have q2 : (2 : Int) < (n : Int) := by omega
  have q3 : (3 : Int) < (n : Int) := by omega
  have q4 : (4 : Int) < (n : Int) := by omega
  have q5 : (5 : Int) < (n : Int) := by omega
  have q6 : (6 : Int) < (n : Int) := by omega
  have q7 : (7 : Int) < (n : Int) := by omega
  have p0 : 0 < n := by omega
  have p1 : 1 < n := by omega
  have p2 : 2 < n := by omega
  have p3 : 3 < n := by omega
  have p4 : 4 < n := by omega
  have p5 : 5 < n := by omega
  have p6 : 6 < n := by omega
  have p7 : 7 < n := by omega
  go_enter Tryd.func73, Tryd.ntmps73
  go_wp2
  go_quiet (fail)
  go_wp2
  go_ret
  refine ⟨?_, _, rfl⟩
  simp (disch := omega) only [u64_wrap_id, u64_or8, u64_or16, u64_or24, u64_or32, u64_or40, u64_or48, u64_or56]
  rw [HV.out]
  rfl

/-- A text of characters as UTF-8 writes them, as far as it is needed: how many bytes follow a leading one, and that each is one that follows. -/
inductive Utf8 : List Int → Prop where
  | nil : Utf8 []
  | one {c : Int} {l : List Int} (h : 0 ≤ c ∧ c < 128) (k : Utf8 l) : Utf8 (c :: l)
  | two {c d : Int} {l : List Int} (h : 192 ≤ c ∧ c < 224) (h1 : 128 ≤ d ∧ d < 192) (k : Utf8 l) : Utf8 (c :: d :: l)
  | three {c d e : Int} {l : List Int} (h : 224 ≤ c ∧ c < 240) (h1 : 128 ≤ d ∧ d < 192) (h2 : 128 ≤ e ∧ e < 192) (k : Utf8 l) : Utf8 (c :: d :: e :: l)
  | four {c d e f : Int} {l : List Int} (h : 240 ≤ c ∧ c < 256) (h1 : 128 ≤ d ∧ d < 192) (h2 : 128 ≤ e ∧ e < 192) (h3 : 128 ≤ f ∧ f < 192) (k : Utf8 l) : Utf8 (c :: d :: e :: f :: l)
def isU8 (T : List Int) : Prop := ∀ j, j < T.length → 0 ≤ T.getD j 0 ∧ T.getD j 0 < 256
theorem drop_cons (T : List Int) (k : Nat) (h : k < T.length) : T.drop k = T.getD k 0 :: T.drop (k + 1) := by
  rw [List.drop_eq_getElem_cons h, List.getD_eq_getElem?_getD, List.getElem?_eq_getElem h]
  rfl
def byt (T : List Int) (j : Nat) : UInt8 := UInt8.ofNat (T.getD j 0).toNat
theorem byt_int {T : List Int} (hT : isU8 T) {j : Nat} (h : j < T.length) : ((byt T j).toNat : Int) = T.getD j 0 := by
  have := hT j h
  unfold byt
  rw [UInt8.toNat_ofNat']
  omega
def W8 (T : List Int) (k : Nat) : Nat := Lib.leNat [byt T k, byt T (k + 1), byt T (k + 2), byt T (k + 3), byt T (k + 4), byt T (k + 5), byt T (k + 6), byt T (k + 7)]
theorem W8_lt (T : List Int) (k : Nat) : W8 T k < 18446744073709551616 := by
  have h := Lib.leNat_lt [byt T k, byt T (k + 1), byt T (k + 2), byt T (k + 3), byt T (k + 4), byt T (k + 5), byt T (k + 6), byt T (k + 7)]
  show Lib.leNat [byt T k, byt T (k + 1), byt T (k + 2), byt T (k + 3), byt T (k + 4), byt T (k + 5), byt T (k + 6), byt T (k + 7)] < _
  simpa using h
def Asc (T : List Int) (k m : Nat) : Prop := ∀ j, j < m → T.getD (k + j) 0 < 128
theorem W8_asc {T : List Int} (hT : isU8 T) {k : Nat} (h : k + 8 ≤ T.length) (e : W8 T k &&& 9259542123273814144 = 0) : Asc T k 8 := by
  have hm := Lib.leNat_mask [byt T k, byt T (k + 1), byt T (k + 2), byt T (k + 3), byt T (k + 4), byt T (k + 5), byt T (k + 6), byt T (k + 7)]
  rw [show ([byt T k, byt T (k + 1), byt T (k + 2), byt T (k + 3), byt T (k + 4), byt T (k + 5), byt T (k + 6), byt T (k + 7)]).length = 8 from rfl, Lib.maskN8] at hm
  have := hm.1 e
  intro j hj
  rw [← byt_int hT (by omega)]
  have hb : byt T (k + j) ∈ [byt T k, byt T (k + 1), byt T (k + 2), byt T (k + 3), byt T (k + 4), byt T (k + 5), byt T (k + 6), byt T (k + 7)] := by
    have : j = 0 ∨ j = 1 ∨ j = 2 ∨ j = 3 ∨ j = 4 ∨ j = 5 ∨ j = 6 ∨ j = 7 := by omega
    rcases this with rfl | rfl | rfl | rfl | rfl | rfl | rfl | rfl <;> simp
  have := this _ hb
  omega
theorem Asc.add {T : List Int} {k a b : Nat} (h : Asc T k a) (h1 : Asc T (k + a) b) : Asc T k (a + b) := by
  intro j hj
  by_cases c : j < a
  · exact h j c
  · have := h1 (j - a) (by omega)
    rwa [show k + a + (j - a) = k + j from by omega] at this
theorem Utf8.skip {T : List Int} (hT : isU8 T) : ∀ (m k : Nat), k + m ≤ T.length → Asc T k m → Utf8 (T.drop (k + m)) → Utf8 (T.drop k)
  | 0, k, _, _, h => by simpa using h
  | m + 1, k, hl, ha, h => by
    rw [drop_cons T k (by omega)]
    refine .one ⟨(hT k (by omega)).1, by simpa using ha 0 (by omega)⟩ (Utf8.skip hT m (k + 1) (by omega) (fun j hj => ?_) (by rwa [show k + 1 + m = k + (m + 1) from by omega]))
    have := ha (j + 1) (by omega)
    rwa [show k + (j + 1) = k + 1 + j from by omega] at this
theorem word_at {w : World} {b o : Nat} {T : List Int} (hT : isU8 T) (hc : ∀ j, j < T.length → w.cell? ⟨b, o + j, none⟩ = some (.int .u8 (T.getD j 0))) {k m c : Nat} (h : k + 8 ≤ T.length) (hm : 8 ≤ m) :
    Calls Tryd.prog 73 #[.slice (some ⟨b, o + k, none⟩) m c] w fun e w' => e = .returned (.int .u64 (W8 T k)) ∧ ∃ q, w' = w.drewN q := by
  have hx : ∀ i, k + i < T.length → w.cell? ⟨b, o + k + i, none⟩ = some (.int .u8 ((byt T (k + i)).toNat : Int)) := fun i hi => by
    rw [byt_int hT hi, ← hc _ hi, Nat.add_assoc]
  exact word_calls hm _ _ _ _ _ _ _ _ (hx 0 (by omega)) (hx 1 (by omega)) (hx 2 (by omega)) (hx 3 (by omega)) (hx 4 (by omega)) (hx 5 (by omega)) (hx 6 (by omega)) (hx 7 (by omega))
end Go.Proofs.YteonakpgenkhkaaDoor
