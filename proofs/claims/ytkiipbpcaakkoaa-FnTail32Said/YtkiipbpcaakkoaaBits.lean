/-
  Small laws on bits of unsigned numbers, in plain words, and on lists that are written cell by cell. No program in sight. Conditions: the numbers fit their kinds.
-/
import Derived.Test.YtkiipbpcaakkoaaEncP
import Derived.Test.YtkiipbpcaakkoaaText
import Derived.Laws.BitsAllLaws
namespace Go.Proofs.Ytkiipbpcaakkoaa
open Go.RowKit

theorem or_disj (a b k : Nat) (hb : b < 2 ^ k) : (a * 2 ^ k) ||| b = a * 2 ^ k + b := by
  rw [← Nat.shiftLeft_eq, Nat.shiftLeft_add_eq_or_of_lt hb]

theorem or64 (a b k : Nat) (hb : b < 2 ^ k) (ha : a * 2 ^ k < 18446744073709551616) (hb' : b < 18446744073709551616) : bits .or .u64 ((a : Int) * ((2 ^ k : Nat) : Int)) (b : Int) = ((a * 2 ^ k + b : Nat) : Int) := by
  have e : (a : Int) * ((2 ^ k : Nat) : Int) = ((a * 2 ^ k : Nat) : Int) := by rw [Int.natCast_mul]
  rw [e, u64_or_nat _ _ ha hb', or_disj a b k hb]

theorem and64_mask (v : Int) (k : Nat) (hk : k ≤ 32) (h0 : 0 ≤ v) (h1 : v < 18446744073709551616) : bits .and .u64 v ((2 ^ k - 1 : Nat) : Int) = v % ((2 ^ k : Nat) : Int) := by
  have h2 : 2 ^ k - 1 < 18446744073709551616 := by
    have : 2 ^ k ≤ 2 ^ 32 := Nat.pow_le_pow_right (by omega) hk
    omega
  obtain ⟨n, rfl⟩ := Int.eq_ofNat_of_zero_le h0
  rw [u64_and_nat n _ (by omega) h2, Nat.and_two_pow_sub_one_eq_mod, Int.natCast_emod]
theorem and63 (v : Int) (h0 : 0 ≤ v) (h1 : v < 18446744073709551616) : bits .and .u64 v 63 = v % 64 := and64_mask v 6 (by omega) h0 h1

theorem three64 (x y z : Nat) (hx : x < 256) (hy : y < 256) (hz : z < 256) :
    bits .or .u64 (bits .or .u64 ((x : Int) * 65536) ((y : Int) * 256)) (z : Int) = ((x * 65536 + y * 256 + z : Nat) : Int) := by
  have e1 : bits .or .u64 ((x : Int) * 65536) ((y : Int) * 256) = ((x * 65536 + y * 256 : Nat) : Int) := by
    have h := or64 x (y * 256) 16 (by omega) (by omega) (by omega)
    simpa [Int.natCast_mul] using h
  rw [e1]
  have h := or64 (x * 256 + y) z 8 (by omega) (by omega) (by omega)
  have e2 : x * 65536 + y * 256 = (x * 256 + y) * 2 ^ 8 := by omega
  rw [e2, Int.natCast_mul, h]
theorem two64 (x y : Nat) (hx : x < 256) (hy : y < 256) : bits .or .u64 ((x : Int) * 65536) ((y : Int) * 256) = ((x * 65536 + y * 256 : Nat) : Int) := by
  have h := or64 x (y * 256) 16 (by omega) (by omega) (by omega)
  simpa [Int.natCast_mul] using h

/-- Cells written one by one are cells laid over the list. -/
theorem splice_set {α : Type} (L : List α) (o : Nat) (v : α) (X : List α) (h : o + 1 + X.length ≤ L.length) : splice (L.set o v) (o + 1) X = splice L o (v :: X) := by
  have ho : o < L.length := by omega
  obtain ⟨A, u, B, hA, rfl⟩ : ∃ A u B, A.length = o ∧ L = A ++ u :: B := by
    refine ⟨L.take o, L[o], L.drop (o + 1), by simp; omega, ?_⟩
    rw [List.getElem_cons_drop, List.take_append_drop]
  subst hA
  have e1 : (A ++ u :: B).set A.length v = A ++ v :: B := by
    rw [List.set_append_right _ _ (Nat.le_refl _), Nat.sub_self]
    rfl
  have e2 : (A ++ v :: B).take (A.length + 1) = A ++ [v] := by
    rw [List.take_append, List.take_of_length_le (by omega), Nat.add_sub_cancel_left]
    rfl
  have e3 : (A ++ v :: B).drop (A.length + 1 + X.length) = B.drop X.length := by
    rw [List.drop_append, List.drop_eq_nil_of_le (by omega), show A.length + 1 + X.length - A.length = X.length + 1 by omega]
    rfl
  have e4 : (A ++ u :: B).drop (A.length + (X.length + 1)) = B.drop X.length := by
    rw [List.drop_append, List.drop_eq_nil_of_le (by omega), show A.length + (X.length + 1) - A.length = X.length + 1 by omega]
    rfl
  unfold splice
  rw [e1, e2, e3, List.length_cons, e4, List.take_left]
  simp

theorem splice_nil {α : Type} (L : List α) (o : Nat) : splice L o [] = L := by simp [splice]
theorem splice_set2 {α : Type} (L : List α) (o : Nat) (v0 v1 : α) (X : List α) (h : o + 2 + X.length ≤ L.length) : splice ((L.set o v0).set (o + 1) v1) (o + 2) X = splice L o (v0 :: v1 :: X) := by
  rw [splice_set (L.set o v0) (o + 1) v1 X (by simp; omega), splice_set L o v0 (v1 :: X) (by simp; omega)]
theorem splice_set4 {α : Type} (L : List α) (o : Nat) (v0 v1 v2 v3 : α) (X : List α) (h : o + 4 + X.length ≤ L.length) : splice ((((L.set o v0).set (o + 1) v1).set (o + 2) v2).set (o + 3) v3) (o + 4) X = splice L o (v0 :: v1 :: v2 :: v3 :: X) := by
  rw [splice_set2 ((L.set o v0).set (o + 1) v1) (o + 2) v2 v3 X (by simp; omega), splice_set2 L o v0 v1 (v2 :: v3 :: X) (by simp; omega)]

theorem sets2_is {α : Type} (L : List α) (o : Nat) (v0 v1 : α) (h : o + 2 ≤ L.length) : (L.set o v0).set (o + 1) v1 = splice L o [v0, v1] := by
  have := splice_set2 L o v0 v1 [] (by simpa using h)
  rwa [splice_nil] at this
theorem sets3_is {α : Type} (L : List α) (o : Nat) (v0 v1 v2 : α) (h : o + 3 ≤ L.length) : ((L.set o v0).set (o + 1) v1).set (o + 2) v2 = splice L o [v0, v1, v2] := by
  have := splice_set2 L o v0 v1 [v2] (by simpa using h)
  rw [← this, ← splice_set ((L.set o v0).set (o + 1) v1) (o + 2) v2 [] (by simp; omega), splice_nil]
theorem sets4_is {α : Type} (L : List α) (o : Nat) (v0 v1 v2 v3 : α) (h : o + 4 ≤ L.length) : (((L.set o v0).set (o + 1) v1).set (o + 2) v2).set (o + 3) v3 = splice L o [v0, v1, v2, v3] := by
  have := splice_set4 L o v0 v1 v2 v3 [] (by simpa using h)
  rwa [splice_nil] at this

theorem charsN6_step (n : Nat) : charsN 6 (n + 3) = charsN 6 n + 4 := by unfold charsN; omega
theorem padN6_step (p : Int) (n : Nat) : padN 6 p (n + 3) = padN 6 p n := by
  unfold padN
  rw [charsN6_step, show grpN 6 = 4 from rfl, Nat.add_mod_right]
theorem lenN6_step (p : Int) (n : Nat) : lenN 6 p (n + 3) = lenN 6 p n + 4 := by
  unfold lenN
  rw [charsN6_step, padN6_step]
  omega
theorem textOf6_step (a : List UInt8) (p : Int) (x y z : UInt8) (r : List UInt8) :
    textOf 6 a p (x :: y :: z :: r) = letter a (x.toNat / 4) :: letter a (x.toNat % 4 * 16 + y.toNat / 16) :: letter a (y.toNat % 16 * 4 + z.toNat / 64) :: letter a (z.toNat % 64) :: textOf 6 a p r := by
  have e : padN 6 p (x :: y :: z :: r).length = padN 6 p r.length := by simp only [List.length_cons]; exact padN6_step p r.length
  unfold textOf
  rw [e]
  simp [lettersOf, codes, sixes]

theorem textOf6_nil (a : List UInt8) (p : Int) : textOf 6 a p [] = [] := by
  have : padN 6 p 0 = 0 := by unfold padN; rw [show charsN 6 0 = 0 from rfl, show grpN 6 = 4 from rfl]; simp
  simp [textOf, lettersOf, codes, sixes, this]
theorem textOf6_one (a : List UInt8) (p : Int) (x : UInt8) : textOf 6 a p [x] = letter a (x.toNat / 4) :: letter a (x.toNat % 4 * 16) :: (if p < 0 then [] else [padB p, padB p]) := by
  have : padN 6 p 1 = if p < 0 then 0 else 2 := by unfold padN; rw [show charsN 6 1 = 2 from rfl, show grpN 6 = 4 from rfl]
  by_cases h : p < 0
  · simp [textOf, lettersOf, codes, sixes, this, h]
  · simp [textOf, lettersOf, codes, sixes, this, h, List.replicate]
theorem textOf6_two (a : List UInt8) (p : Int) (x y : UInt8) : textOf 6 a p [x, y] = letter a (x.toNat / 4) :: letter a (x.toNat % 4 * 16 + y.toNat / 16) :: letter a (y.toNat % 16 * 4) :: (if p < 0 then [] else [padB p]) := by
  have : padN 6 p 2 = if p < 0 then 0 else 1 := by unfold padN; rw [show charsN 6 2 = 3 from rfl, show grpN 6 = 4 from rfl]
  by_cases h : p < 0
  · simp [textOf, lettersOf, codes, sixes, this, h]
  · simp [textOf, lettersOf, codes, sixes, this, h]
theorem padB_toNat (p : Int) (h0 : 0 ≤ p) (h1 : p ≤ 255) : ((padB p).toNat : Int) = p := by
  unfold padB
  rw [UInt8.toNat_ofNat_of_lt' (by show p.toNat < 256; omega)]
  omega

theorem splice_all {α : Type} (L X : List α) (h : X.length = L.length) : splice L 0 X = X := by
  unfold splice
  rw [Nat.zero_add, h, List.drop_eq_nil_of_le (Nat.le_refl _)]
  simp

theorem letter_at (a : List UInt8) (v : Nat) (hv : v < a.length) : letter a v = a[v] := by simp [letter, hv]
theorem enc_letter (a : List UInt8) (k : Nat) (T : List Value) (v : Nat) (hv : v < a.length) : (encTo a k T)[v]? = some (.int .u8 ((letter a v).toNat : Int)) := by
  rw [encTo_letter a k T v hv, letter_at a v hv]

end Go.Proofs.Ytkiipbpcaakkoaa
