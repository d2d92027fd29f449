/-
  The text of some bytes in plain words: the codes of whole groups of bytes, the letters, the padding; the reference's reading by bits gives the same. No program in sight. Conditions: none.
-/
import Derived.Test.YtkiipbpcaakkoaaPlain
namespace Go.Proofs.Ytkiipbpcaakkoaa

/-- The numbers of six bits of some bytes, group by group. -/
def sixes : List UInt8 → List Nat
  | a :: b :: c :: t => a.toNat / 4 :: (a.toNat % 4 * 16 + b.toNat / 16) :: (b.toNat % 16 * 4 + c.toNat / 64) :: (c.toNat % 64) :: sixes t
  | [a, b] => [a.toNat / 4, a.toNat % 4 * 16 + b.toNat / 16, b.toNat % 16 * 4]
  | [a] => [a.toNat / 4, a.toNat % 4 * 16]
  | [] => []

/-- The numbers of five bits of some bytes, group by group. -/
def fives : List UInt8 → List Nat
  | a :: b :: c :: d :: e :: t => a.toNat / 8 :: (a.toNat % 8 * 4 + b.toNat / 64) :: (b.toNat % 64 / 2) :: (b.toNat % 2 * 16 + c.toNat / 16) :: (c.toNat % 16 * 2 + d.toNat / 128) :: (d.toNat % 128 / 4) :: (d.toNat % 4 * 8 + e.toNat / 32) :: (e.toNat % 32) :: fives t
  | [a, b, c, d] => [a.toNat / 8, a.toNat % 8 * 4 + b.toNat / 64, b.toNat % 64 / 2, b.toNat % 2 * 16 + c.toNat / 16, c.toNat % 16 * 2 + d.toNat / 128, d.toNat % 128 / 4, d.toNat % 4 * 8]
  | [a, b, c] => [a.toNat / 8, a.toNat % 8 * 4 + b.toNat / 64, b.toNat % 64 / 2, b.toNat % 2 * 16 + c.toNat / 16, c.toNat % 16 * 2]
  | [a, b] => [a.toNat / 8, a.toNat % 8 * 4 + b.toNat / 64, b.toNat % 64 / 2, b.toNat % 2 * 16]
  | [a] => [a.toNat / 8, a.toNat % 8 * 4]
  | [] => []

def codes (bits : Nat) (l : List UInt8) : List Nat := if bits = 6 then sixes l else fives l

/-- How many characters so many bytes take. -/
def charsN (bits n : Nat) : Nat := n / bits * 8 + (n % bits * 8 + bits - 1) / bits
def grpN (bits : Nat) : Nat := if bits = 6 then 4 else 8
def padN (bits : Nat) (p : Int) (n : Nat) : Nat := if p < 0 then 0 else (grpN bits - charsN bits n % grpN bits) % grpN bits
def lenN (bits : Nat) (p : Int) (n : Nat) : Nat := charsN bits n + padN bits p n

/-- The letter with a number. -/
def letter (a : List UInt8) (v : Nat) : UInt8 := a.getD v 0
/-- The padding's byte. -/
def padB (p : Int) : UInt8 := UInt8.ofNat p.toNat
def lettersOf (bits : Nat) (a : List UInt8) (l : List UInt8) : List UInt8 := (codes bits l).map (letter a)
/-- The text of some bytes. -/
def textOf (bits : Nat) (a : List UInt8) (p : Int) (l : List UInt8) : List UInt8 := lettersOf bits a l ++ List.replicate (padN bits p l.length) (padB p)

theorem sixes_length : ∀ l : List UInt8, (sixes l).length = charsN 6 l.length
  | a :: b :: c :: t => by
    have := sixes_length t
    simp only [sixes, List.length_cons, this, charsN]
    omega
  | [a, b] => by simp [sixes, charsN]
  | [a] => by simp [sixes, charsN]
  | [] => by simp [sixes, charsN]

theorem fives_length : ∀ l : List UInt8, (fives l).length = charsN 5 l.length
  | a :: b :: c :: d :: e :: t => by
    have := fives_length t
    simp only [fives, List.length_cons, this, charsN]
    omega
  | [a, b, c, d] => by simp [fives, charsN]
  | [a, b, c] => by simp [fives, charsN]
  | [a, b] => by simp [fives, charsN]
  | [a] => by simp [fives, charsN]
  | [] => by simp [fives, charsN]

theorem sixes_lt : ∀ (l : List UInt8) (v : Nat), v ∈ sixes l → v < 64
  | a :: b :: c :: t, v, h => by
    have ha := a.toNat_lt; have hb := b.toNat_lt; have hc := c.toNat_lt
    simp only [sixes, List.mem_cons] at h
    rcases h with h | h | h | h | h
    · omega
    · omega
    · omega
    · omega
    · exact sixes_lt t v h
  | [a, b], v, h => by
    have ha := a.toNat_lt; have hb := b.toNat_lt
    simp only [sixes, List.mem_cons, List.not_mem_nil, or_false] at h
    omega
  | [a], v, h => by
    have ha := a.toNat_lt
    simp only [sixes, List.mem_cons, List.not_mem_nil, or_false] at h
    omega
  | [], v, h => by simp [sixes] at h

theorem fives_lt : ∀ (l : List UInt8) (v : Nat), v ∈ fives l → v < 32
  | a :: b :: c :: d :: e :: t, v, h => by
    have ha := a.toNat_lt; have hb := b.toNat_lt; have hc := c.toNat_lt; have hd := d.toNat_lt; have he := e.toNat_lt
    simp only [fives, List.mem_cons] at h
    rcases h with h | h | h | h | h | h | h | h | h
    · omega
    · omega
    · omega
    · omega
    · omega
    · omega
    · omega
    · omega
    · exact fives_lt t v h
  | [a, b, c, d], v, h => by
    have ha := a.toNat_lt; have hb := b.toNat_lt; have hc := c.toNat_lt; have hd := d.toNat_lt
    simp only [fives, List.mem_cons, List.not_mem_nil, or_false] at h
    omega
  | [a, b, c], v, h => by
    have ha := a.toNat_lt; have hb := b.toNat_lt; have hc := c.toNat_lt
    simp only [fives, List.mem_cons, List.not_mem_nil, or_false] at h
    omega
  | [a, b], v, h => by
    have ha := a.toNat_lt; have hb := b.toNat_lt
    simp only [fives, List.mem_cons, List.not_mem_nil, or_false] at h
    omega
  | [a], v, h => by
    have ha := a.toNat_lt
    simp only [fives, List.mem_cons, List.not_mem_nil, or_false] at h
    omega
  | [], v, h => by simp [fives] at h

theorem lettersOf_length6 (a l : List UInt8) : (lettersOf 6 a l).length = charsN 6 l.length := by simp [lettersOf, codes, sixes_length]
theorem lettersOf_length5 (a l : List UInt8) : (lettersOf 5 a l).length = charsN 5 l.length := by simp [lettersOf, codes, fives_length]
theorem textOf_length6 (a : List UInt8) (p : Int) (l : List UInt8) : (textOf 6 a p l).length = lenN 6 p l.length := by simp [textOf, lettersOf_length6, lenN]
theorem textOf_length5 (a : List UInt8) (p : Int) (l : List UInt8) : (textOf 5 a p l).length = lenN 5 p l.length := by simp [textOf, lettersOf_length5, lenN]

/-! ### The reference's reading by bits -/
/-- A bit of some bytes, the highest one of the first byte first; 0 behind the end. -/
def bitAt (l : List UInt8) (k : Nat) : Nat := (l.getD (k / 8) 0).toNat / 2 ^ (7 - k % 8) % 2
/-- The first m bits of the i-th number. -/
def valTo (bits : Nat) (l : List UInt8) (i : Nat) : Nat → Nat
  | 0 => 0
  | m + 1 => 2 * valTo bits l i m + bitAt l (bits * i + m)

theorem bitAt_shift (x : List UInt8) (l : List UInt8) (k : Nat) : bitAt (x ++ l) (k + 8 * x.length) = bitAt l k := by
  unfold bitAt
  have h1 : (k + 8 * x.length) / 8 = k / 8 + x.length := by omega
  have h2 : (k + 8 * x.length) % 8 = k % 8 := by omega
  rw [h1, h2]
  congr 3
  rw [List.getD_eq_getElem?_getD, List.getD_eq_getElem?_getD, List.getElem?_append_right (by omega), Nat.add_sub_cancel]

theorem valTo_shift (bits : Nat) (x l : List UInt8) (i g : Nat) (hg : bits * g = 8 * x.length) : ∀ m, valTo bits (x ++ l) (i + g) m = valTo bits l i m
  | 0 => rfl
  | m + 1 => by
    have e : bits * (i + g) + m = bits * i + m + 8 * x.length := by rw [Nat.mul_add, hg]; omega
    rw [valTo, valTo, valTo_shift bits x l i g hg m, e, bitAt_shift]

theorem range_shift (f : Nat → Nat) (g n : Nat) : (List.range (g + n)).map f = (List.range g).map f ++ (List.range n).map (fun i => f (i + g)) := by
  rw [List.range_add, List.map_append, List.map_map]
  congr 1
  apply List.map_congr_left
  intro i _
  simp [Nat.add_comm]

theorem sixes_bits : ∀ l : List UInt8, (List.range (charsN 6 l.length)).map (fun i => valTo 6 l i 6) = sixes l
  | a :: b :: c :: t => by
    have ih := sixes_bits t
    have e : charsN 6 (a :: b :: c :: t).length = 4 + charsN 6 t.length := by simp only [charsN, List.length_cons]; omega
    have ha := a.toNat_lt; have hb := b.toNat_lt; have hc := c.toNat_lt
    rw [e, range_shift]
    have h2 : (List.range (charsN 6 t.length)).map (fun i => valTo 6 (a :: b :: c :: t) (i + 4) 6) = sixes t := by
      rw [← ih]
      apply List.map_congr_left
      intro i _
      exact valTo_shift 6 [a, b, c] t i 4 rfl 6
    rw [h2, sixes]
    have h0 : (List.range 4).map (fun i => valTo 6 (a :: b :: c :: t) i 6) = [a.toNat / 4, a.toNat % 4 * 16 + b.toNat / 16, b.toNat % 16 * 4 + c.toNat / 64, c.toNat % 64] := by
      simp only [List.range, List.range.loop, List.map_cons, List.map_nil, valTo, bitAt, Nat.reduceMul, Nat.reduceAdd, Nat.reduceDiv, Nat.reduceMod, Nat.reduceSub, Nat.reducePow, List.getD_cons_zero, List.getD_cons_succ]
      refine List.cons_eq_cons.2 ⟨by omega, List.cons_eq_cons.2 ⟨by omega, List.cons_eq_cons.2 ⟨by omega, List.cons_eq_cons.2 ⟨by omega, rfl⟩⟩⟩⟩
    rw [h0]
    rfl
  | [a, b] => by
    have ha := a.toNat_lt; have hb := b.toNat_lt
    simp only [charsN, List.length_cons, List.length_nil, Nat.reduceMul, Nat.reduceAdd, Nat.reduceDiv, Nat.reduceMod, Nat.reduceSub, List.range, List.range.loop, List.map_cons, List.map_nil, valTo, bitAt, Nat.reducePow, List.getD_cons_zero, List.getD_cons_succ, List.getD_nil, sixes]
    refine List.cons_eq_cons.2 ⟨by omega, List.cons_eq_cons.2 ⟨by omega, List.cons_eq_cons.2 ⟨?_, rfl⟩⟩⟩
    have h0 : (0 : UInt8).toNat = 0 := rfl
    rw [h0]; omega
  | [a] => by
    have ha := a.toNat_lt
    simp only [charsN, List.length_cons, List.length_nil, Nat.reduceMul, Nat.reduceAdd, Nat.reduceDiv, Nat.reduceMod, Nat.reduceSub, List.range, List.range.loop, List.map_cons, List.map_nil, valTo, bitAt, Nat.reducePow, List.getD_cons_zero, List.getD_cons_succ, List.getD_nil, sixes]
    refine List.cons_eq_cons.2 ⟨by omega, List.cons_eq_cons.2 ⟨?_, rfl⟩⟩
    have h0 : (0 : UInt8).toNat = 0 := rfl
    rw [h0]; omega
  | [] => by simp [charsN, sixes]

set_option maxHeartbeats 2000000 in
theorem fives_bits : ∀ l : List UInt8, (List.range (charsN 5 l.length)).map (fun i => valTo 5 l i 5) = fives l
  | a :: b :: c :: d :: e :: t => by
    have ih := fives_bits t
    have e0 : charsN 5 (a :: b :: c :: d :: e :: t).length = 8 + charsN 5 t.length := by simp only [charsN, List.length_cons]; omega
    have ha := a.toNat_lt; have hb := b.toNat_lt; have hc := c.toNat_lt; have hd := d.toNat_lt; have he := e.toNat_lt
    rw [e0, range_shift]
    have h2 : (List.range (charsN 5 t.length)).map (fun i => valTo 5 (a :: b :: c :: d :: e :: t) (i + 8) 5) = fives t := by
      rw [← ih]
      apply List.map_congr_left
      intro i _
      exact valTo_shift 5 [a, b, c, d, e] t i 8 rfl 5
    rw [h2, fives]
    have h0 : (List.range 8).map (fun i => valTo 5 (a :: b :: c :: d :: e :: t) i 5) = [a.toNat / 8, a.toNat % 8 * 4 + b.toNat / 64, b.toNat % 64 / 2, b.toNat % 2 * 16 + c.toNat / 16, c.toNat % 16 * 2 + d.toNat / 128, d.toNat % 128 / 4, d.toNat % 4 * 8 + e.toNat / 32, e.toNat % 32] := by
      simp only [List.range, List.range.loop, List.map_cons, List.map_nil, valTo, bitAt, Nat.reduceMul, Nat.reduceAdd, Nat.reduceDiv, Nat.reduceMod, Nat.reduceSub, Nat.reducePow, List.getD_cons_zero, List.getD_cons_succ]
      exact List.cons_eq_cons.2 ⟨by omega, List.cons_eq_cons.2 ⟨by omega, List.cons_eq_cons.2 ⟨by omega, List.cons_eq_cons.2 ⟨by omega, List.cons_eq_cons.2 ⟨by omega, List.cons_eq_cons.2 ⟨by omega, List.cons_eq_cons.2 ⟨by omega, List.cons_eq_cons.2 ⟨by omega, rfl⟩⟩⟩⟩⟩⟩⟩⟩
    rw [h0]
    rfl
  | [a, b, c, d] => by
    have ha := a.toNat_lt; have hb := b.toNat_lt; have hc := c.toNat_lt; have hd := d.toNat_lt
    have h0 : (0 : UInt8).toNat = 0 := rfl
    simp only [charsN, List.length_cons, List.length_nil, Nat.reduceMul, Nat.reduceAdd, Nat.reduceDiv, Nat.reduceMod, Nat.reduceSub, List.range, List.range.loop, List.map_cons, List.map_nil, valTo, bitAt, Nat.reducePow, List.getD_cons_zero, List.getD_cons_succ, List.getD_nil, fives]
    rw [h0]
    exact List.cons_eq_cons.2 ⟨by omega, List.cons_eq_cons.2 ⟨by omega, List.cons_eq_cons.2 ⟨by omega, List.cons_eq_cons.2 ⟨by omega, List.cons_eq_cons.2 ⟨by omega, List.cons_eq_cons.2 ⟨by omega, List.cons_eq_cons.2 ⟨by omega, rfl⟩⟩⟩⟩⟩⟩⟩
  | [a, b, c] => by
    have ha := a.toNat_lt; have hb := b.toNat_lt; have hc := c.toNat_lt
    have h0 : (0 : UInt8).toNat = 0 := rfl
    simp only [charsN, List.length_cons, List.length_nil, Nat.reduceMul, Nat.reduceAdd, Nat.reduceDiv, Nat.reduceMod, Nat.reduceSub, List.range, List.range.loop, List.map_cons, List.map_nil, valTo, bitAt, Nat.reducePow, List.getD_cons_zero, List.getD_cons_succ, List.getD_nil, fives]
    rw [h0]
    exact List.cons_eq_cons.2 ⟨by omega, List.cons_eq_cons.2 ⟨by omega, List.cons_eq_cons.2 ⟨by omega, List.cons_eq_cons.2 ⟨by omega, List.cons_eq_cons.2 ⟨by omega, rfl⟩⟩⟩⟩⟩
  | [a, b] => by
    have ha := a.toNat_lt; have hb := b.toNat_lt
    have h0 : (0 : UInt8).toNat = 0 := rfl
    simp only [charsN, List.length_cons, List.length_nil, Nat.reduceMul, Nat.reduceAdd, Nat.reduceDiv, Nat.reduceMod, Nat.reduceSub, List.range, List.range.loop, List.map_cons, List.map_nil, valTo, bitAt, Nat.reducePow, List.getD_cons_zero, List.getD_cons_succ, List.getD_nil, fives]
    rw [h0]
    exact List.cons_eq_cons.2 ⟨by omega, List.cons_eq_cons.2 ⟨by omega, List.cons_eq_cons.2 ⟨by omega, List.cons_eq_cons.2 ⟨by omega, rfl⟩⟩⟩⟩
  | [a] => by
    have ha := a.toNat_lt
    have h0 : (0 : UInt8).toNat = 0 := rfl
    simp only [charsN, List.length_cons, List.length_nil, Nat.reduceMul, Nat.reduceAdd, Nat.reduceDiv, Nat.reduceMod, Nat.reduceSub, List.range, List.range.loop, List.map_cons, List.map_nil, valTo, bitAt, Nat.reducePow, List.getD_cons_zero, List.getD_cons_succ, List.getD_nil, fives]
    rw [h0]
    exact List.cons_eq_cons.2 ⟨by omega, List.cons_eq_cons.2 ⟨by omega, rfl⟩⟩
  | [] => by simp [charsN, fives]

theorem codes_bits (bits : Nat) (hb : bits = 5 ∨ bits = 6) (l : List UInt8) : (List.range (charsN bits l.length)).map (fun i => valTo bits l i bits) = codes bits l := by
  rcases hb with rfl | rfl
  · exact fives_bits l
  · exact sixes_bits l

end Go.Proofs.Ytkiipbpcaakkoaa
