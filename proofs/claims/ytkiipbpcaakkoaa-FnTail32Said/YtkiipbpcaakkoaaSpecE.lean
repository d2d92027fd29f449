/-
  The contract of the reference's function Decoded: the bytes of a text, whether it is well formed, whether its unused bits are zero. Conditions: the alphabet and the padding are valid; strings of at most 2 ^ 45 bytes.
-/
import Derived.Test.YtkiipbpcaakkoaaSpecD
namespace Go.Proofs.Ytkiipbpcaakkoaa
open Go.RowKit

theorem extract0_data (t : ByteArray) (n : Nat) : (t.extract 0 n).data.toList = t.data.toList.take n := by
  have := toList_extract0 t n
  rw [Lib.toList_data] at this
  exact this
theorem isL_take (a t : List UInt8) (c : UInt8) (h : c ∈ t.take (lettersIn a t)) : isL a c = true := by
  obtain ⟨j, hj, rfl⟩ := List.getElem_of_mem h
  rw [List.length_take] at hj
  rw [List.getElem_take]
  exact isL_of_lt a t j _ (by omega) (List.getElem?_eq_getElem _)

/-- What Decoded returns. -/
def DecodedPost (bits : Nat) (un : List Nat → List UInt8) (rest : List Nat → Nat) (a : List UInt8) (p : Int) (s : List UInt8) (w : World) (e : Ending) (w' : World) : Prop :=
  ∃ v', e = .returned (.tuple #[v', .bool (fineB bits a p (strip s)), .bool (fineB bits a p (strip s) && (rest (numsOf a (strip s)) == 0))]) ∧ Bys w' v' (if fineB bits a p (strip s) = true then un (numsOf a (strip s)) else []) ∧ Below w.heap.size w w'

theorem decoded_no {bits : Nat} {un : List Nat → List UInt8} {rest : List Nat → Nat} {a : List UInt8} {p : Int} {s : List UInt8} {w w' : World} {h : Nat} (hf : fineB bits a p (strip s) = false) (hb : Below w.heap.size w w') :
    DecodedPost bits un rest a p s w (.returned (.tuple #[.slice (some ⟨h, 0, none⟩) 0 0, .bool false, .bool false])) w' := by
  refine ⟨_, by rw [hf]; rfl, ?_, hb⟩
  rw [hf, if_neg (by simp)]
  exact Bys.none_ (Nat.zero_le _)

end Go.Proofs.Ytkiipbpcaakkoaa
