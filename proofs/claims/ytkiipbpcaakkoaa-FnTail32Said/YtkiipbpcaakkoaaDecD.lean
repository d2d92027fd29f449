/-
  What the decoders leave, as definitions, and small plain facts that the walks of the laws share. Conditions: as each states.
-/
import Derived.Test.YtkiipbpcaakkoaaD64P
import Derived.Test.YtkiipbpcaakkoaaConv
namespace Go.Proofs.Ytkiipbpcaakkoaa
open Go.RowKit
set_option linter.unusedVariables false

/-- The verdict and the number. -/
def okOf (R : Option Int) : Bool := R.isNone
def numOf (R : Option Int) : Int := R.getD 0

/-- What DecodeString leaves: the bytes, and the error. -/
def StrPost (T : TypeId) (R : List UInt8 × Option Int) (w : World) (e : Ending) (w' : World) : Prop :=
  ∃ g c, e = .returned (.tuple #[.slice (some ⟨g, 0, none⟩) R.1.length c, errV T R.2]) ∧ Bys w' (.slice (some ⟨g, 0, none⟩) R.1.length c) R.1 ∧ Below w.heap.size w w'

/-- What the thin package's Decode64 leaves. -/
def DecPost (R : List UInt8 × Option Int) (w : World) (e : Ending) (w' : World) : Prop :=
  ∃ g c, e = .returned (.tuple #[.slice (some ⟨g, 0, none⟩) R.1.length c, .bool (okOf R.2), .int .i64 (numOf R.2)]) ∧ Bys w' (.slice (some ⟨g, 0, none⟩) R.1.length c) R.1 ∧ Below w.heap.size w w'

theorem extract_tail_data (t : ByteArray) (k : Nat) : (t.extract k t.size).data.toList = t.data.toList.drop k := by
  rw [ByteArray.data_extract, Array.toList_extract]
  simp only [List.extract_eq_take_drop]
  rw [List.take_of_length_le (by simp)]
theorem append_data (x y : ByteArray) : (x ++ y).data.toList = x.data.toList ++ y.data.toList := by simp [ByteArray.data_append]
theorem size_data (x : ByteArray) : x.size = x.data.toList.length := by simp
theorem str_ext {x y : ByteArray} (h : x.data.toList = y.data.toList) : x = y := by
  apply ByteArray.ext
  exact Array.toList_inj.1 h

/-- What Decode leaves on a text that is taken. -/
def DecOk (l : List UInt8) (w : World) (e : Ending) (w' : World) : Prop :=
  ∃ g c, e = .returned (.tuple #[.slice (some ⟨g, 0, none⟩) l.length c, .bool true, .int .i64 0]) ∧ Bys w' (.slice (some ⟨g, 0, none⟩) l.length c) l ∧ Below w.heap.size w w'
/-- What Decode leaves on a text that is refused. -/
def DecNo (l : List UInt8) (n : Int) (w : World) (e : Ending) (w' : World) : Prop :=
  ∃ g c, e = .returned (.tuple #[.slice (some ⟨g, 0, none⟩) l.length c, .bool false, .int .i64 n]) ∧ Bys w' (.slice (some ⟨g, 0, none⟩) l.length c) l ∧ Below w.heap.size w w'

/-- The length of what is left of the first k characters without the paddings at their end. -/
def trimN (p : Int) (l : List UInt8) : Nat → Nat
  | 0 => 0
  | k + 1 => if ((l.getD k 0).toNat : Int) = p then trimN p l k else k + 1

theorem trimN_le (p : Int) (l : List UInt8) : ∀ k, trimN p l k ≤ k
  | 0 => Nat.le_refl _
  | k + 1 => by
    unfold trimN
    split
    · have := trimN_le p l k; omega
    · exact Nat.le_refl _

theorem trimN_count (a : List UInt8) (p : Int) (l : List UInt8) (hpl : ∀ c, isL a c = true → (c.toNat : Int) ≠ p) : ∀ k, k ≤ l.length → (l.take k).countP (isL a) ≤ trimN p l k
  | 0, _ => by simp
  | k + 1, hk => by
    have hg : l.getD k 0 = l[k] := by simp [List.getD, List.getElem?_eq_getElem (show k < l.length by omega)]
    unfold trimN
    split
    · rename_i h
      rw [List.take_succ_eq_append_getElem (by omega), List.countP_append]
      have h1 : isL a l[k] = false := by
        cases hc : isL a l[k]
        · rfl
        · exact absurd (by rw [← hg]; exact h) (hpl _ hc)
      have := trimN_count a p l hpl k (by omega)
      simp [h1]
      exact this
    · have := List.countP_le_length (p := isL a) (l := l.take (k + 1))
      simp at this
      omega

/-- What AppendDecode leaves. -/
def AppPost (T : TypeId) (R : List UInt8 × Option Int) (d : List UInt8) (B : Nat) (w : World) (e : Ending) (w' : World) : Prop :=
  ∃ g c, e = .returned (.tuple #[.slice (some ⟨g, 0, none⟩) (d.length + R.1.length) c, errV T R.2]) ∧ Bys w' (.slice (some ⟨g, 0, none⟩) (d.length + R.1.length) c) (d ++ R.1) ∧ Below B w w'

/-- What the thin package's AppendDecode64 leaves. -/
def AppDecPost (R : List UInt8 × Option Int) (d : List UInt8) (w : World) (e : Ending) (w' : World) : Prop :=
  ∃ g c, e = .returned (.tuple #[.slice (some ⟨g, 0, none⟩) (d.length + R.1.length) c, .bool (okOf R.2), .int .i64 (numOf R.2)]) ∧ Bys w' (.slice (some ⟨g, 0, none⟩) (d.length + R.1.length) c) (d ++ R.1) ∧ Below w.heap.size w w'

theorem quiet_draw {P : Program} {f : FuncId} {args : Array Value} {w : World} {n : Nat} {v : Value}
    (h : Calls P f args (w.drewN n) fun e w' => e = .returned v ∧ ∃ q, w' = (w.drewN n).drewN q) : Calls P f args (w.drewN n) fun e w'' => e = .returned v ∧ ∃ m, w'' = w.drewN m :=
  h.mono fun _ _ ⟨he, q, hq⟩ => ⟨he, n + q, by rw [hq, World.drewN_drewN]⟩

theorem drop_more {α : Type} {x y : List α} {a b : Nat} (h : x.drop a = y.drop a) (hab : a ≤ b) : x.drop b = y.drop b := by
  have e : b = a + (b - a) := by omega
  rw [e, ← List.drop_drop, ← List.drop_drop, h]

theorem begins_back (d bs : List UInt8) : ((d ++ bs).take d.length == d) = true := by simp

end Go.Proofs.Ytkiipbpcaakkoaa
