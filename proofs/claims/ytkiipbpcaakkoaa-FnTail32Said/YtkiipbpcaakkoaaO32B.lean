/-
  The bytes of a quantum of base32 as the decoder reckons them, and what becomes of a row into which they are written, in plain words. No program in sight. Conditions: numbers below 32.
-/
import Derived.Test.YtkiipbpcaakkoaaO32P
import Derived.Test.YtkiipbpcaakkoaaBits5
namespace Go.Proofs.Ytkiipbpcaakkoaa
open Go.RowKit
set_option linter.unusedVariables false

theorem or8 (a b k : Nat) (A B : Int) (hA : A = ((a * 2 ^ k : Nat) : Int)) (hB : B = (b : Int)) (hb : b < 2 ^ k) (ha : a * 2 ^ k < 256) (hb' : b < 256) : bits .or .u8 A B = ((a * 2 ^ k + b : Nat) : Int) := by
  rw [hA, hB, u8_or_nat _ _ ha hb', or_disj a b k hb]

theorem ob4 (x6 x7 : Nat) (h6 : x6 < 32) (h7 : x7 < 32) : bits .or .u8 ((x6 : Int) * 32 % 256) (x7 : Int) = ((x6 % 8 * 32 + x7 : Nat) : Int) :=
  or8 (x6 % 8) x7 5 _ _ (by omega) rfl (by omega) (by omega) (by omega)
theorem ob3 (x4 x5 x6 : Nat) (h4 : x4 < 32) (h5 : x5 < 32) (h6 : x6 < 32) : bits .or .u8 (bits .or .u8 ((x4 : Int) * 128 % 256) ((x5 : Int) * 4)) ((x6 : Int) / 8) = ((x4 % 2 * 128 + x5 * 4 + x6 / 8 : Nat) : Int) := by
  rw [or8 (x4 % 2) (x5 * 4) 7 ((x4 : Int) * 128 % 256) ((x5 : Int) * 4) (by omega) (by omega) (by omega) (by omega) (by omega)]
  rw [or8 (x4 % 2 * 32 + x5) (x6 / 8) 2 _ _ (by omega) (by omega) (by omega) (by omega) (by omega)]
  omega
theorem ob2 (x3 x4 : Nat) (h3 : x3 < 32) (h4 : x4 < 32) : bits .or .u8 ((x3 : Int) * 16 % 256) ((x4 : Int) / 2) = ((x3 % 16 * 16 + x4 / 2 : Nat) : Int) :=
  or8 (x3 % 16) (x4 / 2) 4 _ _ (by omega) (by omega) (by omega) (by omega) (by omega)
theorem ob1 (x1 x2 x3 : Nat) (h1 : x1 < 32) (h2 : x2 < 32) (h3 : x3 < 32) : bits .or .u8 (bits .or .u8 ((x1 : Int) * 64 % 256) ((x2 : Int) * 2)) ((x3 : Int) / 16) = ((x1 % 4 * 64 + x2 * 2 + x3 / 16 : Nat) : Int) := by
  rw [or8 (x1 % 4) (x2 * 2) 6 ((x1 : Int) * 64 % 256) ((x2 : Int) * 2) (by omega) (by omega) (by omega) (by omega) (by omega)]
  rw [or8 (x1 % 4 * 32 + x2) (x3 / 16) 1 _ _ (by omega) (by omega) (by omega) (by omega) (by omega)]
  omega
theorem ob0 (x0 x1 : Nat) (h0 : x0 < 32) (h1 : x1 < 32) : bits .or .u8 ((x0 : Int) * 8) ((x1 : Int) / 4) = ((x0 * 8 + x1 / 4 : Nat) : Int) :=
  or8 x0 (x1 / 4) 3 _ _ (by omega) (by omega) (by omega) (by omega) (by omega)

theorem oset1 (L : List Value) (o n B0 : Nat) (bs : List UInt8) (h : o + n + 1 ≤ L.length) (hb : bs = [UInt8.ofNat B0]) (l0 : B0 < 256) :
    (L.set (o + n) (.int .u8 (B0 : Int))).length = L.length ∧ (∀ (j : Nat) (x : UInt8), bs[j]? = some x → (L.set (o + n) (.int .u8 (B0 : Int)))[o + n + j]? = some (.int .u8 (x.toNat : Int))) ∧ (∀ i, i < o + n ∨ o + n + 1 ≤ i → (L.set (o + n) (.int .u8 (B0 : Int)))[i]? = L[i]?) := by
  subst hb
  refine ⟨by simp, ?_, ?_⟩
  · intro j x hj
    match j, hj with
    | 0, hj =>
      simp only [List.getElem?_cons_zero, Option.some.injEq] at hj
      rw [← hj, UInt8.toNat_ofNat_of_lt' (by show _ < 256; omega)]
      show (List.set _ _ _)[o + n]? = _
      rw [List.getElem?_set_self (by first | omega | (simp only [List.length_set]; omega))]
    | j + 1, hj => simp at hj
  · intro i hi
    rw [List.getElem?_set_ne (by omega)]

theorem oset2 (L : List Value) (o n B0 B1 : Nat) (bs : List UInt8) (h : o + n + 2 ≤ L.length) (hb : bs = [UInt8.ofNat B0, UInt8.ofNat B1]) (l0 : B0 < 256) (l1 : B1 < 256) :
    ((L.set (o + (n + 1)) (.int .u8 (B1 : Int))).set (o + n) (.int .u8 (B0 : Int))).length = L.length ∧ (∀ (j : Nat) (x : UInt8), bs[j]? = some x → ((L.set (o + (n + 1)) (.int .u8 (B1 : Int))).set (o + n) (.int .u8 (B0 : Int)))[o + n + j]? = some (.int .u8 (x.toNat : Int))) ∧ (∀ i, i < o + n ∨ o + n + 2 ≤ i → ((L.set (o + (n + 1)) (.int .u8 (B1 : Int))).set (o + n) (.int .u8 (B0 : Int)))[i]? = L[i]?) := by
  subst hb
  refine ⟨by simp, ?_, ?_⟩
  · intro j x hj
    match j, hj with
    | 0, hj =>
      simp only [List.getElem?_cons_zero, Option.some.injEq] at hj
      rw [← hj, UInt8.toNat_ofNat_of_lt' (by show _ < 256; omega)]
      show (List.set _ _ _)[o + n]? = _
      rw [List.getElem?_set_self (by first | omega | (simp only [List.length_set]; omega))]
    | 1, hj =>
      simp only [List.getElem?_cons_succ, List.getElem?_cons_zero, Option.some.injEq] at hj
      rw [← hj, UInt8.toNat_ofNat_of_lt' (by show _ < 256; omega)]
      rw [List.getElem?_set_ne (by omega)]
      rw [show o + n + 1 = o + (n + 1) by omega, List.getElem?_set_self (by first | omega | (simp only [List.length_set]; omega))]
    | j + 2, hj => simp at hj
  · intro i hi
    rw [List.getElem?_set_ne (by omega), List.getElem?_set_ne (by omega)]

theorem oset3 (L : List Value) (o n B0 B1 B2 : Nat) (bs : List UInt8) (h : o + n + 3 ≤ L.length) (hb : bs = [UInt8.ofNat B0, UInt8.ofNat B1, UInt8.ofNat B2]) (l0 : B0 < 256) (l1 : B1 < 256) (l2 : B2 < 256) :
    (((L.set (o + (n + 2)) (.int .u8 (B2 : Int))).set (o + (n + 1)) (.int .u8 (B1 : Int))).set (o + n) (.int .u8 (B0 : Int))).length = L.length ∧ (∀ (j : Nat) (x : UInt8), bs[j]? = some x → (((L.set (o + (n + 2)) (.int .u8 (B2 : Int))).set (o + (n + 1)) (.int .u8 (B1 : Int))).set (o + n) (.int .u8 (B0 : Int)))[o + n + j]? = some (.int .u8 (x.toNat : Int))) ∧ (∀ i, i < o + n ∨ o + n + 3 ≤ i → (((L.set (o + (n + 2)) (.int .u8 (B2 : Int))).set (o + (n + 1)) (.int .u8 (B1 : Int))).set (o + n) (.int .u8 (B0 : Int)))[i]? = L[i]?) := by
  subst hb
  refine ⟨by simp, ?_, ?_⟩
  · intro j x hj
    match j, hj with
    | 0, hj =>
      simp only [List.getElem?_cons_zero, Option.some.injEq] at hj
      rw [← hj, UInt8.toNat_ofNat_of_lt' (by show _ < 256; omega)]
      show (List.set _ _ _)[o + n]? = _
      rw [List.getElem?_set_self (by first | omega | (simp only [List.length_set]; omega))]
    | 1, hj =>
      simp only [List.getElem?_cons_succ, List.getElem?_cons_zero, Option.some.injEq] at hj
      rw [← hj, UInt8.toNat_ofNat_of_lt' (by show _ < 256; omega)]
      rw [List.getElem?_set_ne (by omega)]
      rw [show o + n + 1 = o + (n + 1) by omega, List.getElem?_set_self (by first | omega | (simp only [List.length_set]; omega))]
    | 2, hj =>
      simp only [List.getElem?_cons_succ, List.getElem?_cons_zero, Option.some.injEq] at hj
      rw [← hj, UInt8.toNat_ofNat_of_lt' (by show _ < 256; omega)]
      rw [List.getElem?_set_ne (by omega)]
      rw [List.getElem?_set_ne (by omega)]
      rw [show o + n + 2 = o + (n + 2) by omega, List.getElem?_set_self (by first | omega | (simp only [List.length_set]; omega))]
    | j + 3, hj => simp at hj
  · intro i hi
    rw [List.getElem?_set_ne (by omega), List.getElem?_set_ne (by omega), List.getElem?_set_ne (by omega)]

theorem oset4 (L : List Value) (o n B0 B1 B2 B3 : Nat) (bs : List UInt8) (h : o + n + 4 ≤ L.length) (hb : bs = [UInt8.ofNat B0, UInt8.ofNat B1, UInt8.ofNat B2, UInt8.ofNat B3]) (l0 : B0 < 256) (l1 : B1 < 256) (l2 : B2 < 256) (l3 : B3 < 256) :
    ((((L.set (o + (n + 3)) (.int .u8 (B3 : Int))).set (o + (n + 2)) (.int .u8 (B2 : Int))).set (o + (n + 1)) (.int .u8 (B1 : Int))).set (o + n) (.int .u8 (B0 : Int))).length = L.length ∧ (∀ (j : Nat) (x : UInt8), bs[j]? = some x → ((((L.set (o + (n + 3)) (.int .u8 (B3 : Int))).set (o + (n + 2)) (.int .u8 (B2 : Int))).set (o + (n + 1)) (.int .u8 (B1 : Int))).set (o + n) (.int .u8 (B0 : Int)))[o + n + j]? = some (.int .u8 (x.toNat : Int))) ∧ (∀ i, i < o + n ∨ o + n + 4 ≤ i → ((((L.set (o + (n + 3)) (.int .u8 (B3 : Int))).set (o + (n + 2)) (.int .u8 (B2 : Int))).set (o + (n + 1)) (.int .u8 (B1 : Int))).set (o + n) (.int .u8 (B0 : Int)))[i]? = L[i]?) := by
  subst hb
  refine ⟨by simp, ?_, ?_⟩
  · intro j x hj
    match j, hj with
    | 0, hj =>
      simp only [List.getElem?_cons_zero, Option.some.injEq] at hj
      rw [← hj, UInt8.toNat_ofNat_of_lt' (by show _ < 256; omega)]
      show (List.set _ _ _)[o + n]? = _
      rw [List.getElem?_set_self (by first | omega | (simp only [List.length_set]; omega))]
    | 1, hj =>
      simp only [List.getElem?_cons_succ, List.getElem?_cons_zero, Option.some.injEq] at hj
      rw [← hj, UInt8.toNat_ofNat_of_lt' (by show _ < 256; omega)]
      rw [List.getElem?_set_ne (by omega)]
      rw [show o + n + 1 = o + (n + 1) by omega, List.getElem?_set_self (by first | omega | (simp only [List.length_set]; omega))]
    | 2, hj =>
      simp only [List.getElem?_cons_succ, List.getElem?_cons_zero, Option.some.injEq] at hj
      rw [← hj, UInt8.toNat_ofNat_of_lt' (by show _ < 256; omega)]
      rw [List.getElem?_set_ne (by omega)]
      rw [List.getElem?_set_ne (by omega)]
      rw [show o + n + 2 = o + (n + 2) by omega, List.getElem?_set_self (by first | omega | (simp only [List.length_set]; omega))]
    | 3, hj =>
      simp only [List.getElem?_cons_succ, List.getElem?_cons_zero, Option.some.injEq] at hj
      rw [← hj, UInt8.toNat_ofNat_of_lt' (by show _ < 256; omega)]
      rw [List.getElem?_set_ne (by omega)]
      rw [List.getElem?_set_ne (by omega)]
      rw [List.getElem?_set_ne (by omega)]
      rw [show o + n + 3 = o + (n + 3) by omega, List.getElem?_set_self (by first | omega | (simp only [List.length_set]; omega))]
    | j + 4, hj => simp at hj
  · intro i hi
    rw [List.getElem?_set_ne (by omega), List.getElem?_set_ne (by omega), List.getElem?_set_ne (by omega), List.getElem?_set_ne (by omega)]

theorem oset5 (L : List Value) (o n B0 B1 B2 B3 B4 : Nat) (bs : List UInt8) (h : o + n + 5 ≤ L.length) (hb : bs = [UInt8.ofNat B0, UInt8.ofNat B1, UInt8.ofNat B2, UInt8.ofNat B3, UInt8.ofNat B4]) (l0 : B0 < 256) (l1 : B1 < 256) (l2 : B2 < 256) (l3 : B3 < 256) (l4 : B4 < 256) :
    (((((L.set (o + (n + 4)) (.int .u8 (B4 : Int))).set (o + (n + 3)) (.int .u8 (B3 : Int))).set (o + (n + 2)) (.int .u8 (B2 : Int))).set (o + (n + 1)) (.int .u8 (B1 : Int))).set (o + n) (.int .u8 (B0 : Int))).length = L.length ∧ (∀ (j : Nat) (x : UInt8), bs[j]? = some x → (((((L.set (o + (n + 4)) (.int .u8 (B4 : Int))).set (o + (n + 3)) (.int .u8 (B3 : Int))).set (o + (n + 2)) (.int .u8 (B2 : Int))).set (o + (n + 1)) (.int .u8 (B1 : Int))).set (o + n) (.int .u8 (B0 : Int)))[o + n + j]? = some (.int .u8 (x.toNat : Int))) ∧ (∀ i, i < o + n ∨ o + n + 5 ≤ i → (((((L.set (o + (n + 4)) (.int .u8 (B4 : Int))).set (o + (n + 3)) (.int .u8 (B3 : Int))).set (o + (n + 2)) (.int .u8 (B2 : Int))).set (o + (n + 1)) (.int .u8 (B1 : Int))).set (o + n) (.int .u8 (B0 : Int)))[i]? = L[i]?) := by
  subst hb
  refine ⟨by simp, ?_, ?_⟩
  · intro j x hj
    match j, hj with
    | 0, hj =>
      simp only [List.getElem?_cons_zero, Option.some.injEq] at hj
      rw [← hj, UInt8.toNat_ofNat_of_lt' (by show _ < 256; omega)]
      show (List.set _ _ _)[o + n]? = _
      rw [List.getElem?_set_self (by first | omega | (simp only [List.length_set]; omega))]
    | 1, hj =>
      simp only [List.getElem?_cons_succ, List.getElem?_cons_zero, Option.some.injEq] at hj
      rw [← hj, UInt8.toNat_ofNat_of_lt' (by show _ < 256; omega)]
      rw [List.getElem?_set_ne (by omega)]
      rw [show o + n + 1 = o + (n + 1) by omega, List.getElem?_set_self (by first | omega | (simp only [List.length_set]; omega))]
    | 2, hj =>
      simp only [List.getElem?_cons_succ, List.getElem?_cons_zero, Option.some.injEq] at hj
      rw [← hj, UInt8.toNat_ofNat_of_lt' (by show _ < 256; omega)]
      rw [List.getElem?_set_ne (by omega)]
      rw [List.getElem?_set_ne (by omega)]
      rw [show o + n + 2 = o + (n + 2) by omega, List.getElem?_set_self (by first | omega | (simp only [List.length_set]; omega))]
    | 3, hj =>
      simp only [List.getElem?_cons_succ, List.getElem?_cons_zero, Option.some.injEq] at hj
      rw [← hj, UInt8.toNat_ofNat_of_lt' (by show _ < 256; omega)]
      rw [List.getElem?_set_ne (by omega)]
      rw [List.getElem?_set_ne (by omega)]
      rw [List.getElem?_set_ne (by omega)]
      rw [show o + n + 3 = o + (n + 3) by omega, List.getElem?_set_self (by first | omega | (simp only [List.length_set]; omega))]
    | 4, hj =>
      simp only [List.getElem?_cons_succ, List.getElem?_cons_zero, Option.some.injEq] at hj
      rw [← hj, UInt8.toNat_ofNat_of_lt' (by show _ < 256; omega)]
      rw [List.getElem?_set_ne (by omega)]
      rw [List.getElem?_set_ne (by omega)]
      rw [List.getElem?_set_ne (by omega)]
      rw [List.getElem?_set_ne (by omega)]
      rw [show o + n + 4 = o + (n + 4) by omega, List.getElem?_set_self (by first | omega | (simp only [List.length_set]; omega))]
    | j + 5, hj => simp at hj
  · intro i hi
    rw [List.getElem?_set_ne (by omega), List.getElem?_set_ne (by omega), List.getElem?_set_ne (by omega), List.getElem?_set_ne (by omega), List.getElem?_set_ne (by omega)]

end Go.Proofs.Ytkiipbpcaakkoaa
