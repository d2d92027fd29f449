/-
  Contracts of base64's assemble32 and assemble64, and of byteorder's BEPutUint32 and BEPutUint64. Conditions: numbers of six bits, or one of them 255; the slice is long enough.
-/
import Derived.Test.YthnfghjcmfcghaaD64P
import Derived.Test.YthnfghjcmfcghaaBits5
namespace Go.Proofs.Ythnfghjcmfcghaa
open Go.RowKit

/-- What the decoding map says of a byte. -/
def mapN (a : List UInt8) (c : UInt8) : Nat := if isL a c = true then numL a c else 255

theorem mapN_at {a : List UInt8} {c : UInt8} {N : Nat} (hN : a.length = N) : mapAt a N c.toNat = ((mapN a c : Nat) : Int) := by
  unfold mapN
  cases h : isL a c with
  | true => rw [if_pos rfl]; exact (map_letter h hN).1
  | false => rw [if_neg (by simp)]; exact map_other h
theorem mapN_lt {a : List UInt8} {c : UInt8} (hN : a.length ≤ 64) : mapN a c < 256 := by
  unfold mapN
  cases h : isL a c with
  | true => rw [if_pos rfl]; have := (map_letter h rfl).2; omega
  | false => rw [if_neg (by simp)]; omega
theorem or_lt64 {x y : Nat} (hx : x < 64) (hy : y < 64) : x ||| y < 64 := Nat.or_lt_two_pow (n := 6) hx hy
theorem or_lt256 {x y : Nat} (hx : x < 256) (hy : y < 256) : x ||| y < 256 := Nat.or_lt_two_pow (n := 8) hx hy
theorem or_255l {y : Nat} (hy : y < 256) : 255 ||| y = 255 := by
  have h := nat_join 8 0 0 rfl (by decide)
  apply Nat.eq_of_testBit_eq
  intro i
  rw [Nat.testBit_or]
  rcases Nat.lt_or_ge i 8 with hi | hi
  · have : (255 : Nat).testBit i = true := by
      rcases (by omega : i = 0 ∨ i = 1 ∨ i = 2 ∨ i = 3 ∨ i = 4 ∨ i = 5 ∨ i = 6 ∨ i = 7) with rfl | rfl | rfl | rfl | rfl | rfl | rfl | rfl <;> rfl
    rw [this]; rfl
  · have : y.testBit i = false := Nat.testBit_lt_two_pow (Nat.lt_of_lt_of_le hy (Nat.pow_le_pow_right (n := 2) (by omega) hi))
    rw [this, Bool.or_false]
theorem or_255r {x : Nat} (hx : x < 256) : x ||| 255 = 255 := by rw [Nat.or_comm]; exact or_255l hx

theorem join4 (x0 x1 x2 x3 : Nat) (h0 : x0 < 64) (h1 : x1 < 64) (h2 : x2 < 64) (h3 : x3 < 64) : bits .or .u32 (bits .or .u32 (bits .or .u32 ((x0 : Int) * 67108864) ((x1 : Int) * 1048576)) ((x2 : Int) * 16384)) ((x3 : Int) * 256) = ((x0 * 67108864 + x1 * 1048576 + x2 * 16384 + x3 * 256 : Nat) : Int) := by
  have o1 := or32 (x0) (x1 * 1048576) 26 (by omega) (by omega) (by omega)
  have q1 : bits .or .u32 (((x0 * 67108864 : Nat) : Int)) ((x1 : Int) * 1048576) = ((x0 * 67108864 + x1 * 1048576 : Nat) : Int) := by
    have e1 : x0 * 67108864 = (x0) * 2 ^ 26 := by omega
    have e2 : ((x1 : Int) * 1048576) = ((x1 * 1048576 : Nat) : Int) := by omega
    rw [e1, e2, Int.natCast_mul, o1]
  have o2 := or32 (x0 * 64 + x1) (x2 * 16384) 20 (by omega) (by omega) (by omega)
  have q2 : bits .or .u32 (((x0 * 67108864 + x1 * 1048576 : Nat) : Int)) ((x2 : Int) * 16384) = ((x0 * 67108864 + x1 * 1048576 + x2 * 16384 : Nat) : Int) := by
    have e1 : x0 * 67108864 + x1 * 1048576 = (x0 * 64 + x1) * 2 ^ 20 := by omega
    have e2 : ((x2 : Int) * 16384) = ((x2 * 16384 : Nat) : Int) := by omega
    rw [e1, e2, Int.natCast_mul, o2]
  have o3 := or32 ((x0 * 64 + x1) * 64 + x2) (x3 * 256) 14 (by omega) (by omega) (by omega)
  have q3 : bits .or .u32 (((x0 * 67108864 + x1 * 1048576 + x2 * 16384 : Nat) : Int)) ((x3 : Int) * 256) = ((x0 * 67108864 + x1 * 1048576 + x2 * 16384 + x3 * 256 : Nat) : Int) := by
    have e1 : x0 * 67108864 + x1 * 1048576 + x2 * 16384 = ((x0 * 64 + x1) * 64 + x2) * 2 ^ 14 := by omega
    have e2 : ((x3 : Int) * 256) = ((x3 * 256 : Nat) : Int) := by omega
    rw [e1, e2, Int.natCast_mul, o3]
  have q0 : (x0 : Int) * 67108864 = ((x0 * 67108864 : Nat) : Int) := by omega
  rw [q0, q1, q2, q3]

theorem orMap4 {a : List UInt8} (hN : a.length ≤ 64) (c0 c1 c2 c3 : UInt8) (h : ¬ (isL a c0 = true ∧ isL a c1 = true ∧ isL a c2 = true ∧ isL a c3 = true)) : (((mapN a c0 ||| mapN a c1) ||| mapN a c2) ||| mapN a c3) = 255 := by
  have m0 : mapN a c0 < 256 := mapN_lt hN
  have m1 : mapN a c1 < 256 := mapN_lt hN
  have m2 : mapN a c2 < 256 := mapN_lt hN
  have m3 : mapN a c3 < 256 := mapN_lt hN
  by_cases k0 : ¬ isL a c0 = true
  · have e : mapN a c0 = 255 := by unfold mapN; rw [if_neg k0]
    rw [e]
    rw [or_255l m1, or_255l m2, or_255l m3]
  replace k0 := Classical.not_not.1 k0
  by_cases k1 : ¬ isL a c1 = true
  · have e : mapN a c1 = 255 := by unfold mapN; rw [if_neg k1]
    rw [e]
    rw [or_255r m0]
    rw [or_255l m2, or_255l m3]
  replace k1 := Classical.not_not.1 k1
  by_cases k2 : ¬ isL a c2 = true
  · have e : mapN a c2 = 255 := by unfold mapN; rw [if_neg k2]
    rw [e]
    rw [or_255r (or_lt256 m0 m1)]
    rw [or_255l m3]
  replace k2 := Classical.not_not.1 k2
  by_cases k3 : ¬ isL a c3 = true
  · have e : mapN a c3 = 255 := by unfold mapN; rw [if_neg k3]
    rw [e]
    rw [or_255r (or_lt256 (or_lt256 m0 m1) m2)]
  replace k3 := Classical.not_not.1 k3
  exact absurd ⟨k0, k1, k2, k3⟩ h

theorem join8 (x0 x1 x2 x3 x4 x5 x6 x7 : Nat) (h0 : x0 < 64) (h1 : x1 < 64) (h2 : x2 < 64) (h3 : x3 < 64) (h4 : x4 < 64) (h5 : x5 < 64) (h6 : x6 < 64) (h7 : x7 < 64) : bits .or .u64 (bits .or .u64 (bits .or .u64 (bits .or .u64 (bits .or .u64 (bits .or .u64 (bits .or .u64 ((x0 : Int) * 288230376151711744) ((x1 : Int) * 4503599627370496)) ((x2 : Int) * 70368744177664)) ((x3 : Int) * 1099511627776)) ((x4 : Int) * 17179869184)) ((x5 : Int) * 268435456)) ((x6 : Int) * 4194304)) ((x7 : Int) * 65536) = ((x0 * 288230376151711744 + x1 * 4503599627370496 + x2 * 70368744177664 + x3 * 1099511627776 + x4 * 17179869184 + x5 * 268435456 + x6 * 4194304 + x7 * 65536 : Nat) : Int) := by
  have o1 := or64 (x0) (x1 * 4503599627370496) 58 (by omega) (by omega) (by omega)
  have q1 : bits .or .u64 (((x0 * 288230376151711744 : Nat) : Int)) ((x1 : Int) * 4503599627370496) = ((x0 * 288230376151711744 + x1 * 4503599627370496 : Nat) : Int) := by
    have e1 : x0 * 288230376151711744 = (x0) * 2 ^ 58 := by omega
    have e2 : ((x1 : Int) * 4503599627370496) = ((x1 * 4503599627370496 : Nat) : Int) := by omega
    rw [e1, e2, Int.natCast_mul, o1]
  have o2 := or64 (x0 * 64 + x1) (x2 * 70368744177664) 52 (by omega) (by omega) (by omega)
  have q2 : bits .or .u64 (((x0 * 288230376151711744 + x1 * 4503599627370496 : Nat) : Int)) ((x2 : Int) * 70368744177664) = ((x0 * 288230376151711744 + x1 * 4503599627370496 + x2 * 70368744177664 : Nat) : Int) := by
    have e1 : x0 * 288230376151711744 + x1 * 4503599627370496 = (x0 * 64 + x1) * 2 ^ 52 := by omega
    have e2 : ((x2 : Int) * 70368744177664) = ((x2 * 70368744177664 : Nat) : Int) := by omega
    rw [e1, e2, Int.natCast_mul, o2]
  have o3 := or64 ((x0 * 64 + x1) * 64 + x2) (x3 * 1099511627776) 46 (by omega) (by omega) (by omega)
  have q3 : bits .or .u64 (((x0 * 288230376151711744 + x1 * 4503599627370496 + x2 * 70368744177664 : Nat) : Int)) ((x3 : Int) * 1099511627776) = ((x0 * 288230376151711744 + x1 * 4503599627370496 + x2 * 70368744177664 + x3 * 1099511627776 : Nat) : Int) := by
    have e1 : x0 * 288230376151711744 + x1 * 4503599627370496 + x2 * 70368744177664 = ((x0 * 64 + x1) * 64 + x2) * 2 ^ 46 := by omega
    have e2 : ((x3 : Int) * 1099511627776) = ((x3 * 1099511627776 : Nat) : Int) := by omega
    rw [e1, e2, Int.natCast_mul, o3]
  have o4 := or64 (((x0 * 64 + x1) * 64 + x2) * 64 + x3) (x4 * 17179869184) 40 (by omega) (by omega) (by omega)
  have q4 : bits .or .u64 (((x0 * 288230376151711744 + x1 * 4503599627370496 + x2 * 70368744177664 + x3 * 1099511627776 : Nat) : Int)) ((x4 : Int) * 17179869184) = ((x0 * 288230376151711744 + x1 * 4503599627370496 + x2 * 70368744177664 + x3 * 1099511627776 + x4 * 17179869184 : Nat) : Int) := by
    have e1 : x0 * 288230376151711744 + x1 * 4503599627370496 + x2 * 70368744177664 + x3 * 1099511627776 = (((x0 * 64 + x1) * 64 + x2) * 64 + x3) * 2 ^ 40 := by omega
    have e2 : ((x4 : Int) * 17179869184) = ((x4 * 17179869184 : Nat) : Int) := by omega
    rw [e1, e2, Int.natCast_mul, o4]
  have o5 := or64 ((((x0 * 64 + x1) * 64 + x2) * 64 + x3) * 64 + x4) (x5 * 268435456) 34 (by omega) (by omega) (by omega)
  have q5 : bits .or .u64 (((x0 * 288230376151711744 + x1 * 4503599627370496 + x2 * 70368744177664 + x3 * 1099511627776 + x4 * 17179869184 : Nat) : Int)) ((x5 : Int) * 268435456) = ((x0 * 288230376151711744 + x1 * 4503599627370496 + x2 * 70368744177664 + x3 * 1099511627776 + x4 * 17179869184 + x5 * 268435456 : Nat) : Int) := by
    have e1 : x0 * 288230376151711744 + x1 * 4503599627370496 + x2 * 70368744177664 + x3 * 1099511627776 + x4 * 17179869184 = ((((x0 * 64 + x1) * 64 + x2) * 64 + x3) * 64 + x4) * 2 ^ 34 := by omega
    have e2 : ((x5 : Int) * 268435456) = ((x5 * 268435456 : Nat) : Int) := by omega
    rw [e1, e2, Int.natCast_mul, o5]
  have o6 := or64 (((((x0 * 64 + x1) * 64 + x2) * 64 + x3) * 64 + x4) * 64 + x5) (x6 * 4194304) 28 (by omega) (by omega) (by omega)
  have q6 : bits .or .u64 (((x0 * 288230376151711744 + x1 * 4503599627370496 + x2 * 70368744177664 + x3 * 1099511627776 + x4 * 17179869184 + x5 * 268435456 : Nat) : Int)) ((x6 : Int) * 4194304) = ((x0 * 288230376151711744 + x1 * 4503599627370496 + x2 * 70368744177664 + x3 * 1099511627776 + x4 * 17179869184 + x5 * 268435456 + x6 * 4194304 : Nat) : Int) := by
    have e1 : x0 * 288230376151711744 + x1 * 4503599627370496 + x2 * 70368744177664 + x3 * 1099511627776 + x4 * 17179869184 + x5 * 268435456 = (((((x0 * 64 + x1) * 64 + x2) * 64 + x3) * 64 + x4) * 64 + x5) * 2 ^ 28 := by omega
    have e2 : ((x6 : Int) * 4194304) = ((x6 * 4194304 : Nat) : Int) := by omega
    rw [e1, e2, Int.natCast_mul, o6]
  have o7 := or64 ((((((x0 * 64 + x1) * 64 + x2) * 64 + x3) * 64 + x4) * 64 + x5) * 64 + x6) (x7 * 65536) 22 (by omega) (by omega) (by omega)
  have q7 : bits .or .u64 (((x0 * 288230376151711744 + x1 * 4503599627370496 + x2 * 70368744177664 + x3 * 1099511627776 + x4 * 17179869184 + x5 * 268435456 + x6 * 4194304 : Nat) : Int)) ((x7 : Int) * 65536) = ((x0 * 288230376151711744 + x1 * 4503599627370496 + x2 * 70368744177664 + x3 * 1099511627776 + x4 * 17179869184 + x5 * 268435456 + x6 * 4194304 + x7 * 65536 : Nat) : Int) := by
    have e1 : x0 * 288230376151711744 + x1 * 4503599627370496 + x2 * 70368744177664 + x3 * 1099511627776 + x4 * 17179869184 + x5 * 268435456 + x6 * 4194304 = ((((((x0 * 64 + x1) * 64 + x2) * 64 + x3) * 64 + x4) * 64 + x5) * 64 + x6) * 2 ^ 22 := by omega
    have e2 : ((x7 : Int) * 65536) = ((x7 * 65536 : Nat) : Int) := by omega
    rw [e1, e2, Int.natCast_mul, o7]
  have q0 : (x0 : Int) * 288230376151711744 = ((x0 * 288230376151711744 : Nat) : Int) := by omega
  rw [q0, q1, q2, q3, q4, q5, q6, q7]

theorem orMap8 {a : List UInt8} (hN : a.length ≤ 64) (c0 c1 c2 c3 c4 c5 c6 c7 : UInt8) (h : ¬ (isL a c0 = true ∧ isL a c1 = true ∧ isL a c2 = true ∧ isL a c3 = true ∧ isL a c4 = true ∧ isL a c5 = true ∧ isL a c6 = true ∧ isL a c7 = true)) : (((((((mapN a c0 ||| mapN a c1) ||| mapN a c2) ||| mapN a c3) ||| mapN a c4) ||| mapN a c5) ||| mapN a c6) ||| mapN a c7) = 255 := by
  have m0 : mapN a c0 < 256 := mapN_lt hN
  have m1 : mapN a c1 < 256 := mapN_lt hN
  have m2 : mapN a c2 < 256 := mapN_lt hN
  have m3 : mapN a c3 < 256 := mapN_lt hN
  have m4 : mapN a c4 < 256 := mapN_lt hN
  have m5 : mapN a c5 < 256 := mapN_lt hN
  have m6 : mapN a c6 < 256 := mapN_lt hN
  have m7 : mapN a c7 < 256 := mapN_lt hN
  by_cases k0 : ¬ isL a c0 = true
  · have e : mapN a c0 = 255 := by unfold mapN; rw [if_neg k0]
    rw [e]
    rw [or_255l m1, or_255l m2, or_255l m3, or_255l m4, or_255l m5, or_255l m6, or_255l m7]
  replace k0 := Classical.not_not.1 k0
  by_cases k1 : ¬ isL a c1 = true
  · have e : mapN a c1 = 255 := by unfold mapN; rw [if_neg k1]
    rw [e]
    rw [or_255r m0]
    rw [or_255l m2, or_255l m3, or_255l m4, or_255l m5, or_255l m6, or_255l m7]
  replace k1 := Classical.not_not.1 k1
  by_cases k2 : ¬ isL a c2 = true
  · have e : mapN a c2 = 255 := by unfold mapN; rw [if_neg k2]
    rw [e]
    rw [or_255r (or_lt256 m0 m1)]
    rw [or_255l m3, or_255l m4, or_255l m5, or_255l m6, or_255l m7]
  replace k2 := Classical.not_not.1 k2
  by_cases k3 : ¬ isL a c3 = true
  · have e : mapN a c3 = 255 := by unfold mapN; rw [if_neg k3]
    rw [e]
    rw [or_255r (or_lt256 (or_lt256 m0 m1) m2)]
    rw [or_255l m4, or_255l m5, or_255l m6, or_255l m7]
  replace k3 := Classical.not_not.1 k3
  by_cases k4 : ¬ isL a c4 = true
  · have e : mapN a c4 = 255 := by unfold mapN; rw [if_neg k4]
    rw [e]
    rw [or_255r (or_lt256 (or_lt256 (or_lt256 m0 m1) m2) m3)]
    rw [or_255l m5, or_255l m6, or_255l m7]
  replace k4 := Classical.not_not.1 k4
  by_cases k5 : ¬ isL a c5 = true
  · have e : mapN a c5 = 255 := by unfold mapN; rw [if_neg k5]
    rw [e]
    rw [or_255r (or_lt256 (or_lt256 (or_lt256 (or_lt256 m0 m1) m2) m3) m4)]
    rw [or_255l m6, or_255l m7]
  replace k5 := Classical.not_not.1 k5
  by_cases k6 : ¬ isL a c6 = true
  · have e : mapN a c6 = 255 := by unfold mapN; rw [if_neg k6]
    rw [e]
    rw [or_255r (or_lt256 (or_lt256 (or_lt256 (or_lt256 (or_lt256 m0 m1) m2) m3) m4) m5)]
    rw [or_255l m7]
  replace k6 := Classical.not_not.1 k6
  by_cases k7 : ¬ isL a c7 = true
  · have e : mapN a c7 = 255 := by unfold mapN; rw [if_neg k7]
    rw [e]
    rw [or_255r (or_lt256 (or_lt256 (or_lt256 (or_lt256 (or_lt256 (or_lt256 m0 m1) m2) m3) m4) m5) m6)]
  replace k7 := Classical.not_not.1 k7
  exact absurd ⟨k0, k1, k2, k3, k4, k5, k6, k7⟩ h

end Go.Proofs.Ythnfghjcmfcghaa
