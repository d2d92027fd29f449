/-
  The walks of laws on decoding of texts: each returns true. Conditions: strings and slices hold at most 1048576 bytes.
-/
import Derived.Test.YthnfghjcmfcghaaLawsG
import Derived.Test.YthnfghjcmfcghaaHelpD
import Derived.Deep.RegionWith
import Derived.BigRegion
namespace Go.Proofs.Ythnfghjcmfcghaa
open Go.RowKit
set_option linter.unusedVariables false

theorem extract_tail_data (t : ByteArray) (k : Nat) : (t.extract k t.size).data.toList = t.data.toList.drop k := by
  rw [ByteArray.data_extract, Array.toList_extract]
  simp only [List.extract_eq_take_drop]
  rw [List.take_of_length_le (by simp)]
theorem append_data (x y : ByteArray) : (x ++ y).data.toList = x.data.toList ++ y.data.toList := by simp [ByteArray.data_append]
theorem size_data (x : ByteArray) : x.size = x.data.toList.length := by simp
theorem str_ext {x y : ByteArray} (h : x.data.toList = y.data.toList) : x = y := by
  apply ByteArray.ext
  exact Array.toList_inj.1 h

/-- What Decode leaves on a text that is taken. -/
def DecOk (l : List UInt8) (w : World) (e : Ending) (w' : World) : Prop :=
  ∃ g c, e = .returned (.tuple #[.slice (some ⟨g, 0, none⟩) l.length c, .bool true, .int .i64 0]) ∧ Bys w' (.slice (some ⟨g, 0, none⟩) l.length c) l ∧ Below w.heap.size w w'
/-- What Decode leaves on a text that is refused. -/
def DecNo (l : List UInt8) (n : Int) (w : World) (e : Ending) (w' : World) : Prop :=
  ∃ g c, e = .returned (.tuple #[.slice (some ⟨g, 0, none⟩) l.length c, .bool false, .int .i64 n]) ∧ Bys w' (.slice (some ⟨g, 0, none⟩) l.length c) l ∧ Below w.heap.size w w'

end Go.Proofs.Ythnfghjcmfcghaa
