/-
  Small laws on bits of 32-bit numbers and on the texts of base32, in plain words. No program in sight. Conditions: the numbers fit their kinds.
-/
import Derived.Test.YtkiipbpcaakkoaaBits
namespace Go.Proofs.Ytkiipbpcaakkoaa
open Go.RowKit

theorem or32 (a b k : Nat) (hb : b < 2 ^ k) (ha : a * 2 ^ k < 4294967296) (hb' : b < 4294967296) : bits .or .u32 ((a : Int) * ((2 ^ k : Nat) : Int)) (b : Int) = ((a * 2 ^ k + b : Nat) : Int) := by
  have e : (a : Int) * ((2 ^ k : Nat) : Int) = ((a * 2 ^ k : Nat) : Int) := by rw [Int.natCast_mul]
  rw [e, u32_or_nat _ _ ha hb', or_disj a b k hb]

theorem or32_low (a b k : Nat) (hb : b < 2 ^ k) (ha : a * 2 ^ k < 4294967296) (hb' : b < 4294967296) : bits .or .u32 (b : Int) ((a : Int) * ((2 ^ k : Nat) : Int)) = ((a * 2 ^ k + b : Nat) : Int) := by
  have e : (a : Int) * ((2 ^ k : Nat) : Int) = ((a * 2 ^ k : Nat) : Int) := by rw [Int.natCast_mul]
  rw [e, u32_or_nat _ _ hb' ha, Nat.or_comm, or_disj a b k hb]

theorem and31 (v : Int) (h0 : 0 ≤ v) (h1 : v < 4294967296) : bits .and .u32 v 31 = v % 32 := by
  obtain ⟨n, rfl⟩ := Int.eq_ofNat_of_zero_le h0
  have h := u32_and_nat n 31 (by omega) (by omega)
  have e : n &&& 31 = n % 32 := Nat.and_two_pow_sub_one_eq_mod n 5
  rw [e] at h
  rw [show (31 : Int) = ((31 : Nat) : Int) from rfl, h]
  omega

theorem four32 (x y z u : Nat) (hx : x < 2 ^ 8) (hy : y < 2 ^ 8) (hz : z < 2 ^ 8) (hu : u < 2 ^ 8) :
    bits .or .u32 (bits .or .u32 (bits .or .u32 ((x : Int) * 16777216) ((y : Int) * 65536)) ((z : Int) * 256)) (u : Int) = ((x * 16777216 + y * 65536 + z * 256 + u : Nat) : Int) := by
  have e2 : x * 16777216 + y * 65536 = (x * 256 + y) * 2 ^ 16 := by omega
  have e4 : x * 16777216 + y * 65536 + z * 256 = (x * 65536 + y * 256 + z) * 2 ^ 8 := by rw [show (2 : Nat) ^ 8 = 256 from rfl, Nat.add_mul, Nat.add_mul, Nat.mul_assoc, Nat.mul_assoc]
  have h1 := or32 x (y * 65536) 24 (by omega) (by omega) (by omega)
  have h2 := or32 (x * 256 + y) (z * 256) 16 (by omega) (by omega) (by omega)
  have h3 := or32 (x * 65536 + y * 256 + z) u 8 (by omega) (by omega) (by omega)
  have e1 : bits .or .u32 ((x : Int) * 16777216) ((y : Int) * 65536) = ((x * 16777216 + y * 65536 : Nat) : Int) := by simpa [Int.natCast_mul] using h1
  have e3 : bits .or .u32 (((x * 16777216 + y * 65536 : Nat) : Int)) ((z : Int) * 256) = ((x * 16777216 + y * 65536 + z * 256 : Nat) : Int) := by
    rw [e2, Int.natCast_mul]
    have : ((z : Int) * 256) = ((z * 256 : Nat) : Int) := by omega
    rw [this, h2]
  rw [e1, e3, e4, Int.natCast_mul, h3]

theorem splice_set8 {α : Type} (L : List α) (o : Nat) (v0 v1 v2 v3 v4 v5 v6 v7 : α) (X : List α) (h : o + 8 + X.length ≤ L.length) : splice ((((((((L.set o v0).set (o + 1) v1).set (o + 2) v2).set (o + 3) v3).set (o + 4) v4).set (o + 5) v5).set (o + 6) v6).set (o + 7) v7) (o + 8) X = splice L o (v0 :: v1 :: v2 :: v3 :: v4 :: v5 :: v6 :: v7 :: X) := by
  rw [splice_set4 ((((L.set o v0).set (o + 1) v1).set (o + 2) v2).set (o + 3) v3) (o + 4) v4 v5 v6 v7 X (by simp; omega), splice_set4 L o v0 v1 v2 v3 (v4 :: v5 :: v6 :: v7 :: X) (by simp; omega)]
theorem splice_app {α : Type} (A M X : List α) : splice (A ++ M) A.length X = A ++ (X ++ M.drop X.length) := by
  unfold splice
  rw [List.take_left' rfl, List.drop_append, List.drop_eq_nil_of_le (by omega), List.nil_append, Nat.add_sub_cancel_left]
theorem splice_before {α : Type} (L : List α) (o : Nat) (v : α) (X : List α) (h : o + 1 + X.length ≤ L.length) : (splice L (o + 1) X).set o v = splice L o (v :: X) := by
  obtain ⟨A, u, B, hA, rfl⟩ : ∃ A u B, A.length = o ∧ L = A ++ u :: B := by
    refine ⟨L.take o, L[o], L.drop (o + 1), by simp; omega, ?_⟩
    rw [List.getElem_cons_drop, List.take_append_drop]
  subst hA
  have e : A ++ u :: B = (A ++ [u]) ++ B := by simp
  have e2 : A.length + 1 = (A ++ [u]).length := by simp
  rw [splice_app, e, e2, splice_app]
  simp
theorem splice_after {α : Type} (L : List α) (o : Nat) (v : α) (X : List α) (h : o + X.length + 1 ≤ L.length) : (splice L o X).set (o + X.length) v = splice L o (X ++ [v]) := by
  obtain ⟨A, B, hA, rfl⟩ : ∃ A B, A.length = o ∧ L = A ++ B := ⟨L.take o, L.drop o, by simp; omega, by rw [List.take_append_drop]⟩
  subst hA
  rw [splice_app, splice_app]
  simp only [List.length_append] at h
  have hk : X.length < B.length := by omega
  simp
  rw [List.drop_eq_getElem_cons hk]
  rfl
theorem splice_length {α : Type} (L : List α) (o : Nat) (X : List α) (h : o + X.length ≤ L.length) : (splice L o X).length = L.length := by
  simp [splice]; omega

theorem charsN5_step (n : Nat) : charsN 5 (n + 5) = charsN 5 n + 8 := by unfold charsN; omega
theorem padN5_step (p : Int) (n : Nat) : padN 5 p (n + 5) = padN 5 p n := by
  unfold padN
  rw [charsN5_step, show grpN 5 = 8 from rfl, Nat.add_mod_right]
theorem lenN5_step (p : Int) (n : Nat) : lenN 5 p (n + 5) = lenN 5 p n + 8 := by
  unfold lenN
  rw [charsN5_step, padN5_step]
  omega
theorem textOf5_step (al : List UInt8) (p : Int) (a b c d e : UInt8) (r : List UInt8) :
    textOf 5 al p (a :: b :: c :: d :: e :: r) = letter al (a.toNat / 8) :: letter al (a.toNat % 8 * 4 + b.toNat / 64) :: letter al (b.toNat % 64 / 2) :: letter al (b.toNat % 2 * 16 + c.toNat / 16) :: letter al (c.toNat % 16 * 2 + d.toNat / 128) :: letter al (d.toNat % 128 / 4) :: letter al (d.toNat % 4 * 8 + e.toNat / 32) :: letter al (e.toNat % 32) :: textOf 5 al p r := by
  have e0 : padN 5 p (a :: b :: c :: d :: e :: r).length = padN 5 p r.length := by simp only [List.length_cons]; exact padN5_step p r.length
  unfold textOf
  rw [e0]
  simp [lettersOf, codes, fives]
theorem textOf5_nil (a : List UInt8) (p : Int) : textOf 5 a p [] = [] := by
  have : padN 5 p 0 = 0 := by unfold padN; rw [show charsN 5 0 = 0 from rfl, show grpN 5 = 8 from rfl]; simp
  simp [textOf, lettersOf, codes, fives, this]
/-- The text of fewer bytes than a group has. -/
theorem textOf5_short (al : List UInt8) (p : Int) (l : List UInt8) : textOf 5 al p l = (fives l).map (letter al) ++ List.replicate (padN 5 p l.length) (padB p) := rfl

end Go.Proofs.Ytkiipbpcaakkoaa
