/-
  Contracts of base64's assemble32 and assemble64, and of byteorder's BEPutUint32 and BEPutUint64. Conditions: numbers of six bits, or one of them 255; the slice is long enough.
-/
import Derived.Test.YtkiipbpcaakkoaaD64P
import Derived.Test.YtkiipbpcaakkoaaBits5
namespace Go.Proofs.Ytkiipbpcaakkoaa
open Go.RowKit

/-- What the decoding map says of a byte. -/
def mapN (a : List UInt8) (c : UInt8) : Nat := if isL a c = true then numL a c else 255

theorem mapN_at {a : List UInt8} {c : UInt8} {N : Nat} (hN : a.length = N) : mapAt a N c.toNat = ((mapN a c : Nat) : Int) := by
  unfold mapN
  cases h : isL a c with
  | true => rw [if_pos rfl]; exact (map_letter h hN).1
  | false => rw [if_neg (by simp)]; exact map_other h
theorem mapN_lt {a : List UInt8} {c : UInt8} (hN : a.length ≤ 64) : mapN a c < 256 := by
  unfold mapN
  cases h : isL a c with
  | true => rw [if_pos rfl]; have := (map_letter h rfl).2; omega
  | false => rw [if_neg (by simp)]; omega
theorem or_lt64 {x y : Nat} (hx : x < 64) (hy : y < 64) : x ||| y < 64 := Nat.or_lt_two_pow (n := 6) hx hy
theorem or_lt256 {x y : Nat} (hx : x < 256) (hy : y < 256) : x ||| y < 256 := Nat.or_lt_two_pow (n := 8) hx hy
theorem or_255l {y : Nat} (hy : y < 256) : 255 ||| y = 255 := by
  have h := nat_join 8 0 0 rfl (by decide)
  apply Nat.eq_of_testBit_eq
  intro i
  rw [Nat.testBit_or]
  rcases Nat.lt_or_ge i 8 with hi | hi
  · have : (255 : Nat).testBit i = true := by
      rcases (by omega : i = 0 ∨ i = 1 ∨ i = 2 ∨ i = 3 ∨ i = 4 ∨ i = 5 ∨ i = 6 ∨ i = 7) with rfl | rfl | rfl | rfl | rfl | rfl | rfl | rfl <;> rfl
    rw [this]; rfl
  · have : y.testBit i = false := Nat.testBit_lt_two_pow (Nat.lt_of_lt_of_le hy (Nat.pow_le_pow_right (n := 2) (by omega) hi))
    rw [this, Bool.or_false]
theorem or_255r {x : Nat} (hx : x < 256) : x ||| 255 = 255 := by rw [Nat.or_comm]; exact or_255l hx

theorem join4 (x0 x1 x2 x3 : Nat) (h0 : x0 < 64) (h1 : x1 < 64) (h2 : x2 < 64) (h3 : x3 < 64) : bits .or .u32 (bits .or .u32 (bits .or .u32 ((x0 : Int) * 67108864) ((x1 : Int) * 1048576)) ((x2 : Int) * 16384)) ((x3 : Int) * 256) = ((x0 * 67108864 + x1 * 1048576 + x2 * 16384 + x3 * 256 : Nat) : Int) := by
  have o1 := or32 (x0) (x1 * 1048576) 26 (by omega) (by omega) (by omega)
  have q1 : bits .or .u32 (((x0 * 67108864 : Nat) : Int)) ((x1 : Int) * 1048576) = ((x0 * 67108864 + x1 * 1048576 : Nat) : Int) := by
    have e1 : x0 * 67108864 = (x0) * 2 ^ 26 := by omega
    have e2 : ((x1 : Int) * 1048576) = ((x1 * 1048576 : Nat) : Int) := by omega
    rw [e1, e2, Int.natCast_mul, o1]
  have o2 := or32 (x0 * 64 + x1) (x2 * 16384) 20 (by omega) (by omega) (by omega)
  have q2 : bits .or .u32 (((x0 * 67108864 + x1 * 1048576 : Nat) : Int)) ((x2 : Int) * 16384) = ((x0 * 67108864 + x1 * 1048576 + x2 * 16384 : Nat) : Int) := by
    have e1 : x0 * 67108864 + x1 * 1048576 = (x0 * 64 + x1) * 2 ^ 20 := by omega
    have e2 : ((x2 : Int) * 16384) = ((x2 * 16384 : Nat) : Int) := by omega
    rw [e1, e2, Int.natCast_mul, o2]
  have o3 := or32 ((x0 * 64 + x1) * 64 + x2) (x3 * 256) 14 (by omega) (by omega) (by omega)
  have q3 : bits .or .u32 (((x0 * 67108864 + x1 * 1048576 + x2 * 16384 : Nat) : Int)) ((x3 : Int) * 256) = ((x0 * 67108864 + x1 * 1048576 + x2 * 16384 + x3 * 256 : Nat) : Int) := by
    have e1 : x0 * 67108864 + x1 * 1048576 + x2 * 16384 = ((x0 * 64 + x1) * 64 + x2) * 2 ^ 14 := by omega
    have e2 : ((x3 : Int) * 256) = ((x3 * 256 : Nat) : Int) := by omega
    rw [e1, e2, Int.natCast_mul, o3]
  have q0 : (x0 : Int) * 67108864 = ((x0 * 67108864 : Nat) : Int) := by omega
  rw [q0, q1, q2, q3]

set_option maxHeartbeats 1000000 in
theorem assemble32_yes (x0 x1 x2 x3 : Nat) (w : World) (h0 : x0 < 64) (h1 : x1 < 64) (h2 : x2 < 64) (h3 : x3 < 64) :
    Calls Try.prog 39 #[.int .u8 (x0 : Int), .int .u8 (x1 : Int), .int .u8 (x2 : Int), .int .u8 (x3 : Int)] w fun e w' => e = .returned (.tuple #[.int .u32 ((x0 * 67108864 + x1 * 1048576 + x2 * 16384 + x3 * 256 : Nat) : Int), .bool true]) ∧ w = w' := by
  have HJ := Lib.hid (join4 x0 x1 x2 x3 h0 h1 h2 h3)
  obtain ⟨p1, hp1⟩ : ∃ q, q = x0 ||| x1 := ⟨_, rfl⟩
  have l1 : p1 < 64 := by rw [hp1]; exact or_lt64 h0 h1
  have r1 : bits BinOp.or IntKind.u8 (x0 : Int) (x1 : Int) = (p1 : Int) := by rw [hp1]; exact u8_or_nat _ _ (by omega) (by omega)
  obtain ⟨p2, hp2⟩ : ∃ q, q = p1 ||| x2 := ⟨_, rfl⟩
  have l2 : p2 < 64 := by rw [hp2]; exact or_lt64 l1 h2
  have r2 : bits BinOp.or IntKind.u8 (p1 : Int) (x2 : Int) = (p2 : Int) := by rw [hp2]; exact u8_or_nat _ _ (by omega) (by omega)
  obtain ⟨p3, hp3⟩ : ∃ q, q = p2 ||| x3 := ⟨_, rfl⟩
  have l3 : p3 < 64 := by rw [hp3]; exact or_lt64 l2 h3
  have r3 : bits BinOp.or IntKind.u8 (p2 : Int) (x3 : Int) = (p3 : Int) := by rw [hp3]; exact u8_or_nat _ _ (by omega) (by omega)
  clear hp1 hp2 hp3
  have hne : ((p3 : Int) == 255) = false := by rw [beq_eq_false_iff_ne]; omega
  go_enter Try.func39, Try.ntmps39
  go_wp2
  go_ret2
  exact ⟨by rw [← HJ.out]; rfl, rfl⟩

set_option maxHeartbeats 1000000 in
theorem assemble32_no (x0 x1 x2 x3 : Nat) (w : World) (h0 : x0 < 256) (h1 : x1 < 256) (h2 : x2 < 256) (h3 : x3 < 256) (hbad : (((x0 ||| x1) ||| x2) ||| x3) = 255) :
    Calls Try.prog 39 #[.int .u8 (x0 : Int), .int .u8 (x1 : Int), .int .u8 (x2 : Int), .int .u8 (x3 : Int)] w fun e w' => e = .returned (.tuple #[.int .u32 0, .bool false]) ∧ w = w' := by
  obtain ⟨p1, hp1⟩ : ∃ q, q = x0 ||| x1 := ⟨_, rfl⟩
  rw [← hp1] at hbad
  have l1 : p1 < 256 := by rw [hp1]; exact or_lt256 h0 h1
  have r1 : bits BinOp.or IntKind.u8 (x0 : Int) (x1 : Int) = (p1 : Int) := by rw [hp1]; exact u8_or_nat _ _ (by omega) (by omega)
  obtain ⟨p2, hp2⟩ : ∃ q, q = p1 ||| x2 := ⟨_, rfl⟩
  rw [← hp2] at hbad
  have l2 : p2 < 256 := by rw [hp2]; exact or_lt256 l1 h2
  have r2 : bits BinOp.or IntKind.u8 (p1 : Int) (x2 : Int) = (p2 : Int) := by rw [hp2]; exact u8_or_nat _ _ (by omega) (by omega)
  obtain ⟨p3, hp3⟩ : ∃ q, q = p2 ||| x3 := ⟨_, rfl⟩
  rw [← hp3] at hbad
  have l3 : p3 < 256 := by rw [hp3]; exact or_lt256 l2 h3
  have r3 : bits BinOp.or IntKind.u8 (p2 : Int) (x3 : Int) = (p3 : Int) := by rw [hp3]; exact u8_or_nat _ _ (by omega) (by omega)
  have hne : ((p3 : Int) == 255) = true := by rw [beq_iff_eq]; omega
  clear hbad hp1 hp2 hp3
  go_enter Try.func39, Try.ntmps39
  go_wp2
  go_ret2
  exact ⟨rfl, rfl⟩

theorem orMap4 {a : List UInt8} (hN : a.length ≤ 64) (c0 c1 c2 c3 : UInt8) (h : ¬ (isL a c0 = true ∧ isL a c1 = true ∧ isL a c2 = true ∧ isL a c3 = true)) : (((mapN a c0 ||| mapN a c1) ||| mapN a c2) ||| mapN a c3) = 255 := by
  have m0 : mapN a c0 < 256 := mapN_lt hN
  have m1 : mapN a c1 < 256 := mapN_lt hN
  have m2 : mapN a c2 < 256 := mapN_lt hN
  have m3 : mapN a c3 < 256 := mapN_lt hN
  by_cases k0 : ¬ isL a c0 = true
  · have e : mapN a c0 = 255 := by unfold mapN; rw [if_neg k0]
    rw [e]
    rw [or_255l m1, or_255l m2, or_255l m3]
  replace k0 := Classical.not_not.1 k0
  by_cases k1 : ¬ isL a c1 = true
  · have e : mapN a c1 = 255 := by unfold mapN; rw [if_neg k1]
    rw [e]
    rw [or_255r m0]
    rw [or_255l m2, or_255l m3]
  replace k1 := Classical.not_not.1 k1
  by_cases k2 : ¬ isL a c2 = true
  · have e : mapN a c2 = 255 := by unfold mapN; rw [if_neg k2]
    rw [e]
    rw [or_255r (or_lt256 m0 m1)]
    rw [or_255l m3]
  replace k2 := Classical.not_not.1 k2
  by_cases k3 : ¬ isL a c3 = true
  · have e : mapN a c3 = 255 := by unfold mapN; rw [if_neg k3]
    rw [e]
    rw [or_255r (or_lt256 (or_lt256 m0 m1) m2)]
  replace k3 := Classical.not_not.1 k3
  exact absurd ⟨k0, k1, k2, k3⟩ h

theorem join8 (x0 x1 x2 x3 x4 x5 x6 x7 : Nat) (h0 : x0 < 64) (h1 : x1 < 64) (h2 : x2 < 64) (h3 : x3 < 64) (h4 : x4 < 64) (h5 : x5 < 64) (h6 : x6 < 64) (h7 : x7 < 64) : bits .or .u64 (bits .or .u64 (bits .or .u64 (bits .or .u64 (bits .or .u64 (bits .or .u64 (bits .or .u64 ((x0 : Int) * 288230376151711744) ((x1 : Int) * 4503599627370496)) ((x2 : Int) * 70368744177664)) ((x3 : Int) * 1099511627776)) ((x4 : Int) * 17179869184)) ((x5 : Int) * 268435456)) ((x6 : Int) * 4194304)) ((x7 : Int) * 65536) = ((x0 * 288230376151711744 + x1 * 4503599627370496 + x2 * 70368744177664 + x3 * 1099511627776 + x4 * 17179869184 + x5 * 268435456 + x6 * 4194304 + x7 * 65536 : Nat) : Int) := by
  have o1 := or64 (x0) (x1 * 4503599627370496) 58 (by omega) (by omega) (by omega)
  have q1 : bits .or .u64 (((x0 * 288230376151711744 : Nat) : Int)) ((x1 : Int) * 4503599627370496) = ((x0 * 288230376151711744 + x1 * 4503599627370496 : Nat) : Int) := by
    have e1 : x0 * 288230376151711744 = (x0) * 2 ^ 58 := by omega
    have e2 : ((x1 : Int) * 4503599627370496) = ((x1 * 4503599627370496 : Nat) : Int) := by omega
    rw [e1, e2, Int.natCast_mul, o1]
  have o2 := or64 (x0 * 64 + x1) (x2 * 70368744177664) 52 (by omega) (by omega) (by omega)
  have q2 : bits .or .u64 (((x0 * 288230376151711744 + x1 * 4503599627370496 : Nat) : Int)) ((x2 : Int) * 70368744177664) = ((x0 * 288230376151711744 + x1 * 4503599627370496 + x2 * 70368744177664 : Nat) : Int) := by
    have e1 : x0 * 288230376151711744 + x1 * 4503599627370496 = (x0 * 64 + x1) * 2 ^ 52 := by omega
    have e2 : ((x2 : Int) * 70368744177664) = ((x2 * 70368744177664 : Nat) : Int) := by omega
    rw [e1, e2, Int.natCast_mul, o2]
  have o3 := or64 ((x0 * 64 + x1) * 64 + x2) (x3 * 1099511627776) 46 (by omega) (by omega) (by omega)
  have q3 : bits .or .u64 (((x0 * 288230376151711744 + x1 * 4503599627370496 + x2 * 70368744177664 : Nat) : Int)) ((x3 : Int) * 1099511627776) = ((x0 * 288230376151711744 + x1 * 4503599627370496 + x2 * 70368744177664 + x3 * 1099511627776 : Nat) : Int) := by
    have e1 : x0 * 288230376151711744 + x1 * 4503599627370496 + x2 * 70368744177664 = ((x0 * 64 + x1) * 64 + x2) * 2 ^ 46 := by omega
    have e2 : ((x3 : Int) * 1099511627776) = ((x3 * 1099511627776 : Nat) : Int) := by omega
    rw [e1, e2, Int.natCast_mul, o3]
  have o4 := or64 (((x0 * 64 + x1) * 64 + x2) * 64 + x3) (x4 * 17179869184) 40 (by omega) (by omega) (by omega)
  have q4 : bits .or .u64 (((x0 * 288230376151711744 + x1 * 4503599627370496 + x2 * 70368744177664 + x3 * 1099511627776 : Nat) : Int)) ((x4 : Int) * 17179869184) = ((x0 * 288230376151711744 + x1 * 4503599627370496 + x2 * 70368744177664 + x3 * 1099511627776 + x4 * 17179869184 : Nat) : Int) := by
    have e1 : x0 * 288230376151711744 + x1 * 4503599627370496 + x2 * 70368744177664 + x3 * 1099511627776 = (((x0 * 64 + x1) * 64 + x2) * 64 + x3) * 2 ^ 40 := by omega
    have e2 : ((x4 : Int) * 17179869184) = ((x4 * 17179869184 : Nat) : Int) := by omega
    rw [e1, e2, Int.natCast_mul, o4]
  have o5 := or64 ((((x0 * 64 + x1) * 64 + x2) * 64 + x3) * 64 + x4) (x5 * 268435456) 34 (by omega) (by omega) (by omega)
  have q5 : bits .or .u64 (((x0 * 288230376151711744 + x1 * 4503599627370496 + x2 * 70368744177664 + x3 * 1099511627776 + x4 * 17179869184 : Nat) : Int)) ((x5 : Int) * 268435456) = ((x0 * 288230376151711744 + x1 * 4503599627370496 + x2 * 70368744177664 + x3 * 1099511627776 + x4 * 17179869184 + x5 * 268435456 : Nat) : Int) := by
    have e1 : x0 * 288230376151711744 + x1 * 4503599627370496 + x2 * 70368744177664 + x3 * 1099511627776 + x4 * 17179869184 = ((((x0 * 64 + x1) * 64 + x2) * 64 + x3) * 64 + x4) * 2 ^ 34 := by omega
    have e2 : ((x5 : Int) * 268435456) = ((x5 * 268435456 : Nat) : Int) := by omega
    rw [e1, e2, Int.natCast_mul, o5]
  have o6 := or64 (((((x0 * 64 + x1) * 64 + x2) * 64 + x3) * 64 + x4) * 64 + x5) (x6 * 4194304) 28 (by omega) (by omega) (by omega)
  have q6 : bits .or .u64 (((x0 * 288230376151711744 + x1 * 4503599627370496 + x2 * 70368744177664 + x3 * 1099511627776 + x4 * 17179869184 + x5 * 268435456 : Nat) : Int)) ((x6 : Int) * 4194304) = ((x0 * 288230376151711744 + x1 * 4503599627370496 + x2 * 70368744177664 + x3 * 1099511627776 + x4 * 17179869184 + x5 * 268435456 + x6 * 4194304 : Nat) : Int) := by
    have e1 : x0 * 288230376151711744 + x1 * 4503599627370496 + x2 * 70368744177664 + x3 * 1099511627776 + x4 * 17179869184 + x5 * 268435456 = (((((x0 * 64 + x1) * 64 + x2) * 64 + x3) * 64 + x4) * 64 + x5) * 2 ^ 28 := by omega
    have e2 : ((x6 : Int) * 4194304) = ((x6 * 4194304 : Nat) : Int) := by omega
    rw [e1, e2, Int.natCast_mul, o6]
  have o7 := or64 ((((((x0 * 64 + x1) * 64 + x2) * 64 + x3) * 64 + x4) * 64 + x5) * 64 + x6) (x7 * 65536) 22 (by omega) (by omega) (by omega)
  have q7 : bits .or .u64 (((x0 * 288230376151711744 + x1 * 4503599627370496 + x2 * 70368744177664 + x3 * 1099511627776 + x4 * 17179869184 + x5 * 268435456 + x6 * 4194304 : Nat) : Int)) ((x7 : Int) * 65536) = ((x0 * 288230376151711744 + x1 * 4503599627370496 + x2 * 70368744177664 + x3 * 1099511627776 + x4 * 17179869184 + x5 * 268435456 + x6 * 4194304 + x7 * 65536 : Nat) : Int) := by
    have e1 : x0 * 288230376151711744 + x1 * 4503599627370496 + x2 * 70368744177664 + x3 * 1099511627776 + x4 * 17179869184 + x5 * 268435456 + x6 * 4194304 = ((((((x0 * 64 + x1) * 64 + x2) * 64 + x3) * 64 + x4) * 64 + x5) * 64 + x6) * 2 ^ 22 := by omega
    have e2 : ((x7 : Int) * 65536) = ((x7 * 65536 : Nat) : Int) := by omega
    rw [e1, e2, Int.natCast_mul, o7]
  have q0 : (x0 : Int) * 288230376151711744 = ((x0 * 288230376151711744 : Nat) : Int) := by omega
  rw [q0, q1, q2, q3, q4, q5, q6, q7]

set_option maxHeartbeats 1000000 in
theorem assemble64_yes (x0 x1 x2 x3 x4 x5 x6 x7 : Nat) (w : World) (h0 : x0 < 64) (h1 : x1 < 64) (h2 : x2 < 64) (h3 : x3 < 64) (h4 : x4 < 64) (h5 : x5 < 64) (h6 : x6 < 64) (h7 : x7 < 64) :
    Calls Try.prog 36 #[.int .u8 (x0 : Int), .int .u8 (x1 : Int), .int .u8 (x2 : Int), .int .u8 (x3 : Int), .int .u8 (x4 : Int), .int .u8 (x5 : Int), .int .u8 (x6 : Int), .int .u8 (x7 : Int)] w fun e w' => e = .returned (.tuple #[.int .u64 ((x0 * 288230376151711744 + x1 * 4503599627370496 + x2 * 70368744177664 + x3 * 1099511627776 + x4 * 17179869184 + x5 * 268435456 + x6 * 4194304 + x7 * 65536 : Nat) : Int), .bool true]) ∧ w = w' := by
  have HJ := Lib.hid (join8 x0 x1 x2 x3 x4 x5 x6 x7 h0 h1 h2 h3 h4 h5 h6 h7)
  obtain ⟨p1, hp1⟩ : ∃ q, q = x0 ||| x1 := ⟨_, rfl⟩
  have l1 : p1 < 64 := by rw [hp1]; exact or_lt64 h0 h1
  have r1 : bits BinOp.or IntKind.u8 (x0 : Int) (x1 : Int) = (p1 : Int) := by rw [hp1]; exact u8_or_nat _ _ (by omega) (by omega)
  obtain ⟨p2, hp2⟩ : ∃ q, q = p1 ||| x2 := ⟨_, rfl⟩
  have l2 : p2 < 64 := by rw [hp2]; exact or_lt64 l1 h2
  have r2 : bits BinOp.or IntKind.u8 (p1 : Int) (x2 : Int) = (p2 : Int) := by rw [hp2]; exact u8_or_nat _ _ (by omega) (by omega)
  obtain ⟨p3, hp3⟩ : ∃ q, q = p2 ||| x3 := ⟨_, rfl⟩
  have l3 : p3 < 64 := by rw [hp3]; exact or_lt64 l2 h3
  have r3 : bits BinOp.or IntKind.u8 (p2 : Int) (x3 : Int) = (p3 : Int) := by rw [hp3]; exact u8_or_nat _ _ (by omega) (by omega)
  obtain ⟨p4, hp4⟩ : ∃ q, q = p3 ||| x4 := ⟨_, rfl⟩
  have l4 : p4 < 64 := by rw [hp4]; exact or_lt64 l3 h4
  have r4 : bits BinOp.or IntKind.u8 (p3 : Int) (x4 : Int) = (p4 : Int) := by rw [hp4]; exact u8_or_nat _ _ (by omega) (by omega)
  obtain ⟨p5, hp5⟩ : ∃ q, q = p4 ||| x5 := ⟨_, rfl⟩
  have l5 : p5 < 64 := by rw [hp5]; exact or_lt64 l4 h5
  have r5 : bits BinOp.or IntKind.u8 (p4 : Int) (x5 : Int) = (p5 : Int) := by rw [hp5]; exact u8_or_nat _ _ (by omega) (by omega)
  obtain ⟨p6, hp6⟩ : ∃ q, q = p5 ||| x6 := ⟨_, rfl⟩
  have l6 : p6 < 64 := by rw [hp6]; exact or_lt64 l5 h6
  have r6 : bits BinOp.or IntKind.u8 (p5 : Int) (x6 : Int) = (p6 : Int) := by rw [hp6]; exact u8_or_nat _ _ (by omega) (by omega)
  obtain ⟨p7, hp7⟩ : ∃ q, q = p6 ||| x7 := ⟨_, rfl⟩
  have l7 : p7 < 64 := by rw [hp7]; exact or_lt64 l6 h7
  have r7 : bits BinOp.or IntKind.u8 (p6 : Int) (x7 : Int) = (p7 : Int) := by rw [hp7]; exact u8_or_nat _ _ (by omega) (by omega)
  clear hp1 hp2 hp3 hp4 hp5 hp6 hp7
  have hne : ((p7 : Int) == 255) = false := by rw [beq_eq_false_iff_ne]; omega
  go_enter Try.func36, Try.ntmps36
  go_wp2
  go_ret2
  exact ⟨by rw [← HJ.out]; rfl, rfl⟩

set_option maxHeartbeats 1000000 in
theorem assemble64_no (x0 x1 x2 x3 x4 x5 x6 x7 : Nat) (w : World) (h0 : x0 < 256) (h1 : x1 < 256) (h2 : x2 < 256) (h3 : x3 < 256) (h4 : x4 < 256) (h5 : x5 < 256) (h6 : x6 < 256) (h7 : x7 < 256) (hbad : (((((((x0 ||| x1) ||| x2) ||| x3) ||| x4) ||| x5) ||| x6) ||| x7) = 255) :
    Calls Try.prog 36 #[.int .u8 (x0 : Int), .int .u8 (x1 : Int), .int .u8 (x2 : Int), .int .u8 (x3 : Int), .int .u8 (x4 : Int), .int .u8 (x5 : Int), .int .u8 (x6 : Int), .int .u8 (x7 : Int)] w fun e w' => e = .returned (.tuple #[.int .u64 0, .bool false]) ∧ w = w' := by
  obtain ⟨p1, hp1⟩ : ∃ q, q = x0 ||| x1 := ⟨_, rfl⟩
  rw [← hp1] at hbad
  have l1 : p1 < 256 := by rw [hp1]; exact or_lt256 h0 h1
  have r1 : bits BinOp.or IntKind.u8 (x0 : Int) (x1 : Int) = (p1 : Int) := by rw [hp1]; exact u8_or_nat _ _ (by omega) (by omega)
  obtain ⟨p2, hp2⟩ : ∃ q, q = p1 ||| x2 := ⟨_, rfl⟩
  rw [← hp2] at hbad
  have l2 : p2 < 256 := by rw [hp2]; exact or_lt256 l1 h2
  have r2 : bits BinOp.or IntKind.u8 (p1 : Int) (x2 : Int) = (p2 : Int) := by rw [hp2]; exact u8_or_nat _ _ (by omega) (by omega)
  obtain ⟨p3, hp3⟩ : ∃ q, q = p2 ||| x3 := ⟨_, rfl⟩
  rw [← hp3] at hbad
  have l3 : p3 < 256 := by rw [hp3]; exact or_lt256 l2 h3
  have r3 : bits BinOp.or IntKind.u8 (p2 : Int) (x3 : Int) = (p3 : Int) := by rw [hp3]; exact u8_or_nat _ _ (by omega) (by omega)
  obtain ⟨p4, hp4⟩ : ∃ q, q = p3 ||| x4 := ⟨_, rfl⟩
  rw [← hp4] at hbad
  have l4 : p4 < 256 := by rw [hp4]; exact or_lt256 l3 h4
  have r4 : bits BinOp.or IntKind.u8 (p3 : Int) (x4 : Int) = (p4 : Int) := by rw [hp4]; exact u8_or_nat _ _ (by omega) (by omega)
  obtain ⟨p5, hp5⟩ : ∃ q, q = p4 ||| x5 := ⟨_, rfl⟩
  rw [← hp5] at hbad
  have l5 : p5 < 256 := by rw [hp5]; exact or_lt256 l4 h5
  have r5 : bits BinOp.or IntKind.u8 (p4 : Int) (x5 : Int) = (p5 : Int) := by rw [hp5]; exact u8_or_nat _ _ (by omega) (by omega)
  obtain ⟨p6, hp6⟩ : ∃ q, q = p5 ||| x6 := ⟨_, rfl⟩
  rw [← hp6] at hbad
  have l6 : p6 < 256 := by rw [hp6]; exact or_lt256 l5 h6
  have r6 : bits BinOp.or IntKind.u8 (p5 : Int) (x6 : Int) = (p6 : Int) := by rw [hp6]; exact u8_or_nat _ _ (by omega) (by omega)
  obtain ⟨p7, hp7⟩ : ∃ q, q = p6 ||| x7 := ⟨_, rfl⟩
  rw [← hp7] at hbad
  have l7 : p7 < 256 := by rw [hp7]; exact or_lt256 l6 h7
  have r7 : bits BinOp.or IntKind.u8 (p6 : Int) (x7 : Int) = (p7 : Int) := by rw [hp7]; exact u8_or_nat _ _ (by omega) (by omega)
  have hne : ((p7 : Int) == 255) = true := by rw [beq_iff_eq]; omega
  clear hbad hp1 hp2 hp3 hp4 hp5 hp6 hp7
  go_enter Try.func36, Try.ntmps36
  go_wp2
  go_ret2
  exact ⟨rfl, rfl⟩

theorem orMap8 {a : List UInt8} (hN : a.length ≤ 64) (c0 c1 c2 c3 c4 c5 c6 c7 : UInt8) (h : ¬ (isL a c0 = true ∧ isL a c1 = true ∧ isL a c2 = true ∧ isL a c3 = true ∧ isL a c4 = true ∧ isL a c5 = true ∧ isL a c6 = true ∧ isL a c7 = true)) : (((((((mapN a c0 ||| mapN a c1) ||| mapN a c2) ||| mapN a c3) ||| mapN a c4) ||| mapN a c5) ||| mapN a c6) ||| mapN a c7) = 255 := by
  have m0 : mapN a c0 < 256 := mapN_lt hN
  have m1 : mapN a c1 < 256 := mapN_lt hN
  have m2 : mapN a c2 < 256 := mapN_lt hN
  have m3 : mapN a c3 < 256 := mapN_lt hN
  have m4 : mapN a c4 < 256 := mapN_lt hN
  have m5 : mapN a c5 < 256 := mapN_lt hN
  have m6 : mapN a c6 < 256 := mapN_lt hN
  have m7 : mapN a c7 < 256 := mapN_lt hN
  by_cases k0 : ¬ isL a c0 = true
  · have e : mapN a c0 = 255 := by unfold mapN; rw [if_neg k0]
    rw [e]
    rw [or_255l m1, or_255l m2, or_255l m3, or_255l m4, or_255l m5, or_255l m6, or_255l m7]
  replace k0 := Classical.not_not.1 k0
  by_cases k1 : ¬ isL a c1 = true
  · have e : mapN a c1 = 255 := by unfold mapN; rw [if_neg k1]
    rw [e]
    rw [or_255r m0]
    rw [or_255l m2, or_255l m3, or_255l m4, or_255l m5, or_255l m6, or_255l m7]
  replace k1 := Classical.not_not.1 k1
  by_cases k2 : ¬ isL a c2 = true
  · have e : mapN a c2 = 255 := by unfold mapN; rw [if_neg k2]
    rw [e]
    rw [or_255r (or_lt256 m0 m1)]
    rw [or_255l m3, or_255l m4, or_255l m5, or_255l m6, or_255l m7]
  replace k2 := Classical.not_not.1 k2
  by_cases k3 : ¬ isL a c3 = true
  · have e : mapN a c3 = 255 := by unfold mapN; rw [if_neg k3]
    rw [e]
    rw [or_255r (or_lt256 (or_lt256 m0 m1) m2)]
    rw [or_255l m4, or_255l m5, or_255l m6, or_255l m7]
  replace k3 := Classical.not_not.1 k3
  by_cases k4 : ¬ isL a c4 = true
  · have e : mapN a c4 = 255 := by unfold mapN; rw [if_neg k4]
    rw [e]
    rw [or_255r (or_lt256 (or_lt256 (or_lt256 m0 m1) m2) m3)]
    rw [or_255l m5, or_255l m6, or_255l m7]
  replace k4 := Classical.not_not.1 k4
  by_cases k5 : ¬ isL a c5 = true
  · have e : mapN a c5 = 255 := by unfold mapN; rw [if_neg k5]
    rw [e]
    rw [or_255r (or_lt256 (or_lt256 (or_lt256 (or_lt256 m0 m1) m2) m3) m4)]
    rw [or_255l m6, or_255l m7]
  replace k5 := Classical.not_not.1 k5
  by_cases k6 : ¬ isL a c6 = true
  · have e : mapN a c6 = 255 := by unfold mapN; rw [if_neg k6]
    rw [e]
    rw [or_255r (or_lt256 (or_lt256 (or_lt256 (or_lt256 (or_lt256 m0 m1) m2) m3) m4) m5)]
    rw [or_255l m7]
  replace k6 := Classical.not_not.1 k6
  by_cases k7 : ¬ isL a c7 = true
  · have e : mapN a c7 = 255 := by unfold mapN; rw [if_neg k7]
    rw [e]
    rw [or_255r (or_lt256 (or_lt256 (or_lt256 (or_lt256 (or_lt256 (or_lt256 m0 m1) m2) m3) m4) m5) m6)]
  replace k7 := Classical.not_not.1 k7
  exact absurd ⟨k0, k1, k2, k3, k4, k5, k6, k7⟩ h

theorem asm4 {a : List UInt8} (hN : a.length = 64) (c0 c1 c2 c3 : UInt8) : ∃ (VI : Int) (OB : Bool), (∀ w0 : World, Calls Try.prog 39 #[.int .u8 ((mapN a c0 : Nat) : Int), .int .u8 ((mapN a c1 : Nat) : Int), .int .u8 ((mapN a c2 : Nat) : Int), .int .u8 ((mapN a c3 : Nat) : Int)] w0 fun e w' => e = .returned (.tuple #[.int .u32 VI, .bool OB]) ∧ w0 = w') ∧
    ((isL a c0 = true ∧ isL a c1 = true ∧ isL a c2 = true ∧ isL a c3 = true) → OB = true ∧ VI = ((numL a c0 * 67108864 + numL a c1 * 1048576 + numL a c2 * 16384 + numL a c3 * 256 : Nat) : Int)) ∧ (¬ (isL a c0 = true ∧ isL a c1 = true ∧ isL a c2 = true ∧ isL a c3 = true) → OB = false) := by
  by_cases hall : isL a c0 = true ∧ isL a c1 = true ∧ isL a c2 = true ∧ isL a c3 = true
  · refine ⟨((numL a c0 * 67108864 + numL a c1 * 1048576 + numL a c2 * 16384 + numL a c3 * 256 : Nat) : Int), true, fun w0 => ?_, fun _ => ⟨rfl, rfl⟩, fun h => absurd hall h⟩
    obtain ⟨k0, k1, k2, k3⟩ := hall
    rw [show mapN a c0 = numL a c0 from by unfold mapN; rw [if_pos k0]]
    rw [show mapN a c1 = numL a c1 from by unfold mapN; rw [if_pos k1]]
    rw [show mapN a c2 = numL a c2 from by unfold mapN; rw [if_pos k2]]
    rw [show mapN a c3 = numL a c3 from by unfold mapN; rw [if_pos k3]]
    exact assemble32_yes _ _ _ _ w0 (map_letter k0 hN).2 (map_letter k1 hN).2 (map_letter k2 hN).2 (map_letter k3 hN).2
  · exact ⟨0, false, fun w0 => assemble32_no _ _ _ _ w0 (mapN_lt (Nat.le_of_eq hN)) (mapN_lt (Nat.le_of_eq hN)) (mapN_lt (Nat.le_of_eq hN)) (mapN_lt (Nat.le_of_eq hN)) (orMap4 (Nat.le_of_eq hN) c0 c1 c2 c3 hall), fun h => absurd h hall, fun _ => rfl⟩

theorem asm8 {a : List UInt8} (hN : a.length = 64) (c0 c1 c2 c3 c4 c5 c6 c7 : UInt8) : ∃ (VI : Int) (OB : Bool), (∀ w0 : World, Calls Try.prog 36 #[.int .u8 ((mapN a c0 : Nat) : Int), .int .u8 ((mapN a c1 : Nat) : Int), .int .u8 ((mapN a c2 : Nat) : Int), .int .u8 ((mapN a c3 : Nat) : Int), .int .u8 ((mapN a c4 : Nat) : Int), .int .u8 ((mapN a c5 : Nat) : Int), .int .u8 ((mapN a c6 : Nat) : Int), .int .u8 ((mapN a c7 : Nat) : Int)] w0 fun e w' => e = .returned (.tuple #[.int .u64 VI, .bool OB]) ∧ w0 = w') ∧
    ((isL a c0 = true ∧ isL a c1 = true ∧ isL a c2 = true ∧ isL a c3 = true ∧ isL a c4 = true ∧ isL a c5 = true ∧ isL a c6 = true ∧ isL a c7 = true) → OB = true ∧ VI = ((numL a c0 * 288230376151711744 + numL a c1 * 4503599627370496 + numL a c2 * 70368744177664 + numL a c3 * 1099511627776 + numL a c4 * 17179869184 + numL a c5 * 268435456 + numL a c6 * 4194304 + numL a c7 * 65536 : Nat) : Int)) ∧ (¬ (isL a c0 = true ∧ isL a c1 = true ∧ isL a c2 = true ∧ isL a c3 = true ∧ isL a c4 = true ∧ isL a c5 = true ∧ isL a c6 = true ∧ isL a c7 = true) → OB = false) := by
  by_cases hall : isL a c0 = true ∧ isL a c1 = true ∧ isL a c2 = true ∧ isL a c3 = true ∧ isL a c4 = true ∧ isL a c5 = true ∧ isL a c6 = true ∧ isL a c7 = true
  · refine ⟨((numL a c0 * 288230376151711744 + numL a c1 * 4503599627370496 + numL a c2 * 70368744177664 + numL a c3 * 1099511627776 + numL a c4 * 17179869184 + numL a c5 * 268435456 + numL a c6 * 4194304 + numL a c7 * 65536 : Nat) : Int), true, fun w0 => ?_, fun _ => ⟨rfl, rfl⟩, fun h => absurd hall h⟩
    obtain ⟨k0, k1, k2, k3, k4, k5, k6, k7⟩ := hall
    rw [show mapN a c0 = numL a c0 from by unfold mapN; rw [if_pos k0]]
    rw [show mapN a c1 = numL a c1 from by unfold mapN; rw [if_pos k1]]
    rw [show mapN a c2 = numL a c2 from by unfold mapN; rw [if_pos k2]]
    rw [show mapN a c3 = numL a c3 from by unfold mapN; rw [if_pos k3]]
    rw [show mapN a c4 = numL a c4 from by unfold mapN; rw [if_pos k4]]
    rw [show mapN a c5 = numL a c5 from by unfold mapN; rw [if_pos k5]]
    rw [show mapN a c6 = numL a c6 from by unfold mapN; rw [if_pos k6]]
    rw [show mapN a c7 = numL a c7 from by unfold mapN; rw [if_pos k7]]
    exact assemble64_yes _ _ _ _ _ _ _ _ w0 (map_letter k0 hN).2 (map_letter k1 hN).2 (map_letter k2 hN).2 (map_letter k3 hN).2 (map_letter k4 hN).2 (map_letter k5 hN).2 (map_letter k6 hN).2 (map_letter k7 hN).2
  · exact ⟨0, false, fun w0 => assemble64_no _ _ _ _ _ _ _ _ w0 (mapN_lt (Nat.le_of_eq hN)) (mapN_lt (Nat.le_of_eq hN)) (mapN_lt (Nat.le_of_eq hN)) (mapN_lt (Nat.le_of_eq hN)) (mapN_lt (Nat.le_of_eq hN)) (mapN_lt (Nat.le_of_eq hN)) (mapN_lt (Nat.le_of_eq hN)) (mapN_lt (Nat.le_of_eq hN)) (orMap8 (Nat.le_of_eq hN) c0 c1 c2 c3 c4 c5 c6 c7 hall), fun h => absurd h hall, fun _ => rfl⟩

set_option maxHeartbeats 2000000 in
set_option maxRecDepth 100000 in
theorem put4 (g o m mc V B0 B1 B2 B3 : Nat) (t : TypeId) (cur : List Value) (w : World) (hb : Blk w g t cur) (hm : 4 ≤ m) (hfit : o + 4 ≤ cur.length) (hV : V < 4294967296) (e0 : B0 = V / 16777216) (e1 : B1 = V / 65536 % 256) (e2 : B2 = V / 256 % 256) (e3 : B3 = V % 256) :
    Calls Try.prog 40 #[.slice (some ⟨g, o, none⟩) m mc, .int .u32 (V : Int)] w fun e w' => e = .returned (.tuple #[]) ∧ Blk w' g t ((((cur.set (o) (.int .u8 (B0 : Int))).set (o + 1) (.int .u8 (B1 : Int))).set (o + 2) (.int .u8 (B2 : Int))).set (o + 3) (.int .u8 (B3 : Int))) ∧ w.grownBy w' (some g) := by
  have HB := Lib.hid hb
  obtain ⟨u0, g0⟩ : ∃ u, w.cell? ⟨g, o, none⟩ = some u := ⟨_, (hb.cell (o)).trans (List.getElem?_eq_getElem (by omega))⟩
  have z0 : w.frozen? ⟨g, o, none⟩ = false := hb.frozen _
  obtain ⟨u1, g1⟩ : ∃ u, w.cell? ⟨g, o + 1, none⟩ = some u := ⟨_, (hb.cell (o + 1)).trans (List.getElem?_eq_getElem (by omega))⟩
  have z1 : w.frozen? ⟨g, o + 1, none⟩ = false := hb.frozen _
  obtain ⟨u2, g2⟩ : ∃ u, w.cell? ⟨g, o + 2, none⟩ = some u := ⟨_, (hb.cell (o + 2)).trans (List.getElem?_eq_getElem (by omega))⟩
  have z2 : w.frozen? ⟨g, o + 2, none⟩ = false := hb.frozen _
  obtain ⟨u3, g3⟩ : ∃ u, w.cell? ⟨g, o + 3, none⟩ = some u := ⟨_, (hb.cell (o + 3)).trans (List.getElem?_eq_getElem (by omega))⟩
  have z3 : w.frozen? ⟨g, o + 3, none⟩ = false := hb.frozen _
  have q0 : (V : Int) / 16777216 = (B0 : Int) := by omega
  have q1 : (V : Int) / 65536 % 256 = (B1 : Int) := by omega
  have q2 : (V : Int) / 256 % 256 = (B2 : Int) := by omega
  have q3 : (V : Int) % 256 = (B3 : Int) := by omega
  have HV : Hid (V < 4294967296) := hV
  clear hb e0 e1 e2 e3
  go_enter Try.func40, Try.ntmps40
  go_wp2
  go_end0
  have B9 := ((((HB.out.set_ (o) (.int .u8 (B0 : Int))).set_ (o + 1) (.int .u8 (B1 : Int))).set_ (o + 2) (.int .u8 (B2 : Int))).set_ (o + 3) (.int .u8 (B3 : Int)))
  have G9 := (grown_set (grown_set (grown_set (grown_set (grown_refl w (some g)) (o) (.int .u8 (B0 : Int))) (o + 1) (.int .u8 (B1 : Int))) (o + 2) (.int .u8 (B2 : Int))) (o + 3) (.int .u8 (B3 : Int)))
  exact ⟨rfl, B9, G9⟩

set_option maxHeartbeats 2000000 in
set_option maxRecDepth 100000 in
theorem put8 (g o m mc V B0 B1 B2 B3 B4 B5 B6 B7 : Nat) (t : TypeId) (cur : List Value) (w : World) (hb : Blk w g t cur) (hm : 8 ≤ m) (hfit : o + 8 ≤ cur.length) (hV : V < 18446744073709551616) (e0 : B0 = V / 72057594037927936) (e1 : B1 = V / 281474976710656 % 256) (e2 : B2 = V / 1099511627776 % 256) (e3 : B3 = V / 4294967296 % 256) (e4 : B4 = V / 16777216 % 256) (e5 : B5 = V / 65536 % 256) (e6 : B6 = V / 256 % 256) (e7 : B7 = V % 256) :
    Calls Try.prog 37 #[.slice (some ⟨g, o, none⟩) m mc, .int .u64 (V : Int)] w fun e w' => e = .returned (.tuple #[]) ∧ Blk w' g t ((((((((cur.set (o) (.int .u8 (B0 : Int))).set (o + 1) (.int .u8 (B1 : Int))).set (o + 2) (.int .u8 (B2 : Int))).set (o + 3) (.int .u8 (B3 : Int))).set (o + 4) (.int .u8 (B4 : Int))).set (o + 5) (.int .u8 (B5 : Int))).set (o + 6) (.int .u8 (B6 : Int))).set (o + 7) (.int .u8 (B7 : Int))) ∧ w.grownBy w' (some g) := by
  have HB := Lib.hid hb
  obtain ⟨u0, g0⟩ : ∃ u, w.cell? ⟨g, o, none⟩ = some u := ⟨_, (hb.cell (o)).trans (List.getElem?_eq_getElem (by omega))⟩
  have z0 : w.frozen? ⟨g, o, none⟩ = false := hb.frozen _
  obtain ⟨u1, g1⟩ : ∃ u, w.cell? ⟨g, o + 1, none⟩ = some u := ⟨_, (hb.cell (o + 1)).trans (List.getElem?_eq_getElem (by omega))⟩
  have z1 : w.frozen? ⟨g, o + 1, none⟩ = false := hb.frozen _
  obtain ⟨u2, g2⟩ : ∃ u, w.cell? ⟨g, o + 2, none⟩ = some u := ⟨_, (hb.cell (o + 2)).trans (List.getElem?_eq_getElem (by omega))⟩
  have z2 : w.frozen? ⟨g, o + 2, none⟩ = false := hb.frozen _
  obtain ⟨u3, g3⟩ : ∃ u, w.cell? ⟨g, o + 3, none⟩ = some u := ⟨_, (hb.cell (o + 3)).trans (List.getElem?_eq_getElem (by omega))⟩
  have z3 : w.frozen? ⟨g, o + 3, none⟩ = false := hb.frozen _
  obtain ⟨u4, g4⟩ : ∃ u, w.cell? ⟨g, o + 4, none⟩ = some u := ⟨_, (hb.cell (o + 4)).trans (List.getElem?_eq_getElem (by omega))⟩
  have z4 : w.frozen? ⟨g, o + 4, none⟩ = false := hb.frozen _
  obtain ⟨u5, g5⟩ : ∃ u, w.cell? ⟨g, o + 5, none⟩ = some u := ⟨_, (hb.cell (o + 5)).trans (List.getElem?_eq_getElem (by omega))⟩
  have z5 : w.frozen? ⟨g, o + 5, none⟩ = false := hb.frozen _
  obtain ⟨u6, g6⟩ : ∃ u, w.cell? ⟨g, o + 6, none⟩ = some u := ⟨_, (hb.cell (o + 6)).trans (List.getElem?_eq_getElem (by omega))⟩
  have z6 : w.frozen? ⟨g, o + 6, none⟩ = false := hb.frozen _
  obtain ⟨u7, g7⟩ : ∃ u, w.cell? ⟨g, o + 7, none⟩ = some u := ⟨_, (hb.cell (o + 7)).trans (List.getElem?_eq_getElem (by omega))⟩
  have z7 : w.frozen? ⟨g, o + 7, none⟩ = false := hb.frozen _
  have q0 : (V : Int) / 72057594037927936 = (B0 : Int) := by omega
  have q1 : (V : Int) / 281474976710656 % 256 = (B1 : Int) := by omega
  have q2 : (V : Int) / 1099511627776 % 256 = (B2 : Int) := by omega
  have q3 : (V : Int) / 4294967296 % 256 = (B3 : Int) := by omega
  have q4 : (V : Int) / 16777216 % 256 = (B4 : Int) := by omega
  have q5 : (V : Int) / 65536 % 256 = (B5 : Int) := by omega
  have q6 : (V : Int) / 256 % 256 = (B6 : Int) := by omega
  have q7 : (V : Int) % 256 = (B7 : Int) := by omega
  have HV : Hid (V < 18446744073709551616) := hV
  clear hb e0 e1 e2 e3 e4 e5 e6 e7
  go_enter Try.func37, Try.ntmps37
  go_wp2
  go_end0
  have B9 := ((((((((HB.out.set_ (o) (.int .u8 (B0 : Int))).set_ (o + 1) (.int .u8 (B1 : Int))).set_ (o + 2) (.int .u8 (B2 : Int))).set_ (o + 3) (.int .u8 (B3 : Int))).set_ (o + 4) (.int .u8 (B4 : Int))).set_ (o + 5) (.int .u8 (B5 : Int))).set_ (o + 6) (.int .u8 (B6 : Int))).set_ (o + 7) (.int .u8 (B7 : Int)))
  have G9 := (grown_set (grown_set (grown_set (grown_set (grown_set (grown_set (grown_set (grown_set (grown_refl w (some g)) (o) (.int .u8 (B0 : Int))) (o + 1) (.int .u8 (B1 : Int))) (o + 2) (.int .u8 (B2 : Int))) (o + 3) (.int .u8 (B3 : Int))) (o + 4) (.int .u8 (B4 : Int))) (o + 5) (.int .u8 (B5 : Int))) (o + 6) (.int .u8 (B6 : Int))) (o + 7) (.int .u8 (B7 : Int)))
  exact ⟨rfl, B9, G9⟩

end Go.Proofs.Ytkiipbpcaakkoaa
