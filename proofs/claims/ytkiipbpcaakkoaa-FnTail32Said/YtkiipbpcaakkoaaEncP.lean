/-
  The cells of an Encoding, in plain words: the letters, the map from bytes to places, the padding and the flag. No program in sight. Conditions: none.
-/
import Derived.Test.YtkiipbpcaakkoaaLaws
namespace Go.Proofs.Ytkiipbpcaakkoaa
open Go.RowKit

/-- What the decoding map says of the number c when the first k letters have been entered. -/
def mapAt (a : List UInt8) (k : Nat) (c : Nat) : Int := if 0 ≤ idx a c ∧ idx a c < k then idx a c else 255
def mapCells (a : List UInt8) (k : Nat) : List Value := (List.range 256).map fun c => Value.int .u8 (mapAt a k c)
/-- An Encoding's cells when the first k letters have been entered. -/
def encTo (a : List UInt8) (k : Nat) (T : List Value) : List Value := Lib.byteCells a ++ (mapCells a k ++ T)

theorem mapCells_length (a : List UInt8) (k : Nat) : (mapCells a k).length = 256 := by simp [mapCells]
theorem mapCells_at (a : List UInt8) (k c : Nat) (hc : c < 256) : (mapCells a k)[c]? = some (.int .u8 (mapAt a k c)) := by
  simp [mapCells, hc]
theorem mapCells_zero (a : List UInt8) : mapCells a 0 = List.replicate 256 (Value.int .u8 255) := by
  apply List.ext_getElem?
  intro i
  by_cases h : i < 256
  · rw [mapCells_at a 0 i h]
    simp only [mapAt, List.getElem?_replicate, if_pos h]
    rw [if_neg (by omega)]
  · rw [List.getElem?_eq_none (by rw [mapCells_length]; omega), List.getElem?_eq_none (by rw [List.length_replicate]; omega)]
theorem mapCells_step (a : List UInt8) (k c : Nat) (hc : c < 256) (hi : idx a c = (k : Int)) (huniq : ∀ d : Nat, idx a d = (k : Int) → d = c) :
    (mapCells a k).set c (.int .u8 (k : Int)) = mapCells a (k + 1) := by
  apply List.ext_getElem?
  intro i
  by_cases h : i < 256
  · rw [mapCells_at a (k + 1) i h, List.getElem?_set]
    by_cases e : c = i
    · subst e
      rw [if_pos rfl, if_pos (by rw [mapCells_length]; exact hc)]
      simp only [mapAt, hi]
      rw [if_pos (by omega)]
    · rw [if_neg e, mapCells_at a k i h]
      have hne : idx a i ≠ (k : Int) := fun h' => e (huniq i h').symm
      simp only [mapAt]
      by_cases h1 : 0 ≤ idx a i ∧ idx a i < k
      · rw [if_pos h1, if_pos (by omega)]
      · rw [if_neg h1, if_neg (by omega)]
  · rw [List.getElem?_eq_none (by simp [mapCells_length]; omega), List.getElem?_eq_none (by rw [mapCells_length]; omega)]

theorem idx_uniq (a : List UInt8) (k : Nat) (hk : k < a.length) (d : Int) (h : idx a d = (k : Int)) : d = ((a[k]'hk).toNat : Int) := by
  unfold idx at h
  cases hf : a.findIdx? (fun c => (c.toNat : Int) == d) with
  | none => rw [hf] at h; simp only at h; omega
  | some i =>
    rw [hf] at h
    simp only at h
    obtain rfl : i = k := by omega
    obtain ⟨_, h2, _⟩ := List.findIdx?_eq_some_iff_getElem.1 hf
    exact (eq_of_beq h2).symm

theorem encTo_map (a : List UInt8) (k : Nat) (T : List Value) (N c : Nat) (hN : a.length = N) (hc : c < 256) : (encTo a k T)[N + c]? = some (.int .u8 (mapAt a k c)) := by
  subst hN
  unfold encTo
  rw [List.getElem?_append_right (by rw [Lib.byteCells_length]; omega), Lib.byteCells_length, Nat.add_sub_cancel_left,
    List.getElem?_append_left (by rw [mapCells_length]; exact hc), mapCells_at a k c hc]
theorem encTo_letter (a : List UInt8) (k : Nat) (T : List Value) (v : Nat) (hv : v < a.length) : (encTo a k T)[v]? = some (.int .u8 ((a[v]'hv).toNat : Int)) := by
  unfold encTo
  rw [List.getElem?_append_left (by rw [Lib.byteCells_length]; exact hv)]
  simp [Lib.byteCells, hv]
theorem encTo_tail (a : List UInt8) (k : Nat) (T : List Value) (N i : Nat) (hN : a.length = N) : (encTo a k T)[N + 256 + i]? = T[i]? := by
  subst hN
  unfold encTo
  rw [List.getElem?_append_right (by rw [Lib.byteCells_length]; omega), Lib.byteCells_length, List.getElem?_append_right (by rw [mapCells_length]; omega), mapCells_length,
    show a.length + 256 + i - a.length - 256 = i by omega]
theorem encTo_set_map (a : List UInt8) (k : Nat) (T : List Value) (N c : Nat) (hN : a.length = N) (hc : c < 256) (v : Value) : (encTo a k T).set (N + c) v = Lib.byteCells a ++ ((mapCells a k).set c v ++ T) := by
  subst hN
  unfold encTo
  rw [List.set_append_right _ _ (by rw [Lib.byteCells_length]; omega), Lib.byteCells_length, Nat.add_sub_cancel_left, List.set_append_left _ _ (by rw [mapCells_length]; exact hc)]
theorem encTo_set_tail (a : List UInt8) (k : Nat) (T : List Value) (N i : Nat) (hN : a.length = N) (v : Value) : (encTo a k T).set (N + 256 + i) v = encTo a k (T.set i v) := by
  subst hN
  unfold encTo
  rw [List.set_append_right _ _ (by rw [Lib.byteCells_length]; omega), Lib.byteCells_length, List.set_append_right _ _ (by rw [mapCells_length]; omega), mapCells_length,
    show a.length + 256 + i - a.length - 256 = i by omega]
theorem encTo_step (a : List UInt8) (k : Nat) (T : List Value) (N : Nat) (hN : a.length = N) (hk : k < a.length) (hi : idx a ((a[k]'hk).toNat : Int) = (k : Int)) :
    (encTo a k T).set (N + (a[k]'hk).toNat) (.int .u8 (k : Int)) = encTo a (k + 1) T := by
  have hc : (a[k]'hk).toNat < 256 := (a[k]'hk).toNat_lt
  rw [encTo_set_map a k T N _ hN hc, mapCells_step a k _ hc hi (fun d hd => by have := idx_uniq a k hk d hd; omega)]
  rfl
theorem encTo_length (a : List UInt8) (k : Nat) (T : List Value) : (encTo a k T).length = a.length + 256 + T.length := by
  simp [encTo, Lib.byteCells_length, mapCells_length]; omega

theorem splice_two {α : Type} (X Y T c1 c2 : List α) (N : Nat) (h1 : X.length = c1.length) (h2 : Y.length = c2.length) (hN : c1.length = N) : splice (splice (X ++ (Y ++ T)) 0 c1) N c2 = c1 ++ (c2 ++ T) := by
  subst hN
  have e1 : splice (X ++ (Y ++ T)) 0 c1 = c1 ++ (Y ++ T) := by
    unfold splice
    rw [Nat.zero_add, ← h1, List.drop_left]
    simp
  rw [e1]
  unfold splice
  rw [List.take_left, ← h2, ← List.append_assoc c1 Y T, ← List.length_append, List.drop_left]

/-- 256 bytes of 255. -/
def ffs : ByteArray := ⟨(List.replicate 256 (255 : UInt8)).toArray⟩
theorem ffs_cells : Lib.byteCells ffs.data.toList = List.replicate 256 (Value.int .u8 255) := by
  unfold ffs Lib.byteCells
  rw [List.map_replicate]
  rfl

end Go.Proofs.Ytkiipbpcaakkoaa
