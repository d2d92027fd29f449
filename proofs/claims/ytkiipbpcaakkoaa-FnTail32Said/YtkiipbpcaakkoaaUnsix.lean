/-
  The bytes of numbers of six and of five bits, and that they undo the codes; different bytes have different texts. No program in sight. Conditions: the alphabet and the padding are valid.
-/
import Derived.Test.YtkiipbpcaakkoaaTextP
namespace Go.Proofs.Ytkiipbpcaakkoaa

/-- The whole bytes of numbers of six bits. -/
def unsix : List Nat → List UInt8
  | a :: b :: c :: d :: t => UInt8.ofNat (a * 4 + b / 16) :: UInt8.ofNat (b % 16 * 16 + c / 4) :: UInt8.ofNat (c % 4 * 64 + d) :: unsix t
  | [a, b, c] => [UInt8.ofNat (a * 4 + b / 16), UInt8.ofNat (b % 16 * 16 + c / 4)]
  | [a, b] => [UInt8.ofNat (a * 4 + b / 16)]
  | _ => []

/-- The whole bytes of numbers of five bits. -/
def unfive : List Nat → List UInt8
  | a :: b :: c :: d :: e :: f :: g :: h :: t => UInt8.ofNat (a * 8 + b / 4) :: UInt8.ofNat (b % 4 * 64 + c * 2 + d / 16) :: UInt8.ofNat (d % 16 * 16 + e / 2) :: UInt8.ofNat (e % 2 * 128 + f * 4 + g / 8) :: UInt8.ofNat (g % 8 * 32 + h) :: unfive t
  | [a, b, c, d, e, f, g] => [UInt8.ofNat (a * 8 + b / 4), UInt8.ofNat (b % 4 * 64 + c * 2 + d / 16), UInt8.ofNat (d % 16 * 16 + e / 2), UInt8.ofNat (e % 2 * 128 + f * 4 + g / 8)]
  | [a, b, c, d, e, _] => [UInt8.ofNat (a * 8 + b / 4), UInt8.ofNat (b % 4 * 64 + c * 2 + d / 16), UInt8.ofNat (d % 16 * 16 + e / 2)]
  | [a, b, c, d, e] => [UInt8.ofNat (a * 8 + b / 4), UInt8.ofNat (b % 4 * 64 + c * 2 + d / 16), UInt8.ofNat (d % 16 * 16 + e / 2)]
  | [a, b, c, d] => [UInt8.ofNat (a * 8 + b / 4), UInt8.ofNat (b % 4 * 64 + c * 2 + d / 16)]
  | [a, b, _] => [UInt8.ofNat (a * 8 + b / 4)]
  | [a, b] => [UInt8.ofNat (a * 8 + b / 4)]
  | _ => []

theorem ofNat_is (x : UInt8) (n : Nat) (h : n = x.toNat) : UInt8.ofNat n = x := by subst h; simp

theorem unsix_sixes : ∀ l : List UInt8, unsix (sixes l) = l
  | a :: b :: c :: t => by
    have ha := a.toNat_lt; have hb := b.toNat_lt; have hc := c.toNat_lt
    rw [sixes, unsix, unsix_sixes t, ofNat_is a _ (by omega), ofNat_is b _ (by omega), ofNat_is c _ (by omega)]
  | [a, b] => by
    have ha := a.toNat_lt; have hb := b.toNat_lt
    rw [sixes, unsix, ofNat_is a _ (by omega), ofNat_is b _ (by omega)]
  | [a] => by
    have ha := a.toNat_lt
    rw [sixes, unsix, ofNat_is a _ (by omega)]
  | [] => rfl

theorem unfive_fives : ∀ l : List UInt8, unfive (fives l) = l
  | a :: b :: c :: d :: e :: t => by
    have ha := a.toNat_lt; have hb := b.toNat_lt; have hc := c.toNat_lt; have hd := d.toNat_lt; have he := e.toNat_lt
    rw [fives, unfive, unfive_fives t, ofNat_is a _ (by omega), ofNat_is b _ (by omega), ofNat_is c _ (by omega), ofNat_is d _ (by omega), ofNat_is e _ (by omega)]
  | [a, b, c, d] => by
    have ha := a.toNat_lt; have hb := b.toNat_lt; have hc := c.toNat_lt; have hd := d.toNat_lt
    rw [fives, unfive, ofNat_is a _ (by omega), ofNat_is b _ (by omega), ofNat_is c _ (by omega), ofNat_is d _ (by omega)]
  | [a, b, c] => by
    have ha := a.toNat_lt; have hb := b.toNat_lt; have hc := c.toNat_lt
    rw [fives, unfive, ofNat_is a _ (by omega), ofNat_is b _ (by omega), ofNat_is c _ (by omega)]
  | [a, b] => by
    have ha := a.toNat_lt; have hb := b.toNat_lt
    rw [fives, unfive, ofNat_is a _ (by omega), ofNat_is b _ (by omega)]
  | [a] => by
    have ha := a.toNat_lt
    rw [fives, unfive, ofNat_is a _ (by omega)]
  | [] => rfl

/-- The numbers of the letters at the beginning of a text. -/
def numsOf (a t : List UInt8) : List Nat := (t.take (lettersIn a t)).map fun c => (idx a (c.toNat : Int)).toNat

theorem numsOf_text6 {a : List UInt8} {p : Int} (hv : validP 6 a p) (l : List UInt8) : numsOf a (textOf 6 a p l) = sixes l := by
  unfold numsOf
  rw [lettersIn_text6 hv]
  have e : (textOf 6 a p l).take (charsN 6 l.length) = lettersOf 6 a l := by
    unfold textOf
    rw [List.take_append_of_le_length (by rw [lettersOf_length6]; exact Nat.le_refl _), List.take_of_length_le (by rw [lettersOf_length6]; exact Nat.le_refl _)]
  rw [e]
  show ((codes 6 l).map (letter a)).map _ = codes 6 l
  rw [List.map_map]
  conv => rhs; rw [← List.map_id (codes 6 l)]
  apply List.map_congr_left
  intro v hvm
  have := idx_letter6 hv v (codes6_lt l v hvm)
  simp [this]

theorem text6_inj {a : List UInt8} {p : Int} (hv : validP 6 a p) {l1 l2 : List UInt8} (h : textOf 6 a p l1 = textOf 6 a p l2) : l1 = l2 := by
  rw [← unsix_sixes l1, ← unsix_sixes l2, ← numsOf_text6 hv l1, ← numsOf_text6 hv l2, h]

theorem numsOf_text5 {a : List UInt8} {p : Int} (hv : validP 5 a p) (l : List UInt8) : numsOf a (textOf 5 a p l) = fives l := by
  unfold numsOf
  rw [lettersIn_text5 hv]
  have e : (textOf 5 a p l).take (charsN 5 l.length) = lettersOf 5 a l := by
    unfold textOf
    rw [List.take_append_of_le_length (by rw [lettersOf_length5]; exact Nat.le_refl _), List.take_of_length_le (by rw [lettersOf_length5]; exact Nat.le_refl _)]
  rw [e]
  show ((codes 5 l).map (letter a)).map _ = codes 5 l
  rw [List.map_map]
  conv => rhs; rw [← List.map_id (codes 5 l)]
  apply List.map_congr_left
  intro v hvm
  have := idx_letter5 hv v (codes5_lt l v hvm)
  simp [this]

theorem text5_inj {a : List UInt8} {p : Int} (hv : validP 5 a p) {l1 l2 : List UInt8} (h : textOf 5 a p l1 = textOf 5 a p l2) : l1 = l2 := by
  rw [← unfive_fives l1, ← unfive_fives l2, ← numsOf_text5 hv l1, ← numsOf_text5 hv l2, h]

end Go.Proofs.Ytkiipbpcaakkoaa
