/-
  '[]byte(s)' as a slice that reads as the string. Conditions: at most 2 ^ 48 bytes.
-/
import Derived.Test.YtkiipbpcaakkoaaLawsB
namespace Go.Proofs.Ytkiipbpcaakkoaa
open Go.RowKit

theorem conv_bys {P : Program} (w : World) (st dt e : TypeId) (s : ByteArray) (hs : P.underlying st = some .string) (hd : P.underlying dt = some (.slice e)) (he : P.underlying e = some (.int .u8)) (hl : s.size ≤ 1125899906842624) :
    ∃ c w1, s.size ≤ c ∧ c ≤ maxLen ∧ (convert st dt (.string s)).run P w = .ok (.slice (some ⟨w.heap.size, 0, none⟩) s.size c) w1 ∧ Hid (Below w.heap.size w w1) ∧ Hid (Bys w1 (.slice (some ⟨w.heap.size, 0, none⟩) s.size c) s.data.toList) ∧ Hid (w1.heap.size = w.heap.size + 1) ∧ Hid (∃ cs, Blm w1 w.heap.size e cs ∧ cs.length = c ∧ cs.take s.size = Lib.byteCells s.data.toList) := by
  obtain ⟨c, w1, h1, h2, h3, h4, h5, cs, h6, h7, h8⟩ := conv_bytes (P := P) w st dt e s hs hd he hl
  refine ⟨c, w1, h1, h2, h3, h4, ?_, h5, ⟨cs, h6, h7, h8⟩⟩
  have hL : s.data.toList.length = s.size := by simp
  have := Bys.of_blm h6 0 c s.data.toList (by rw [hL]; exact h1) h2 (fun j x hj => by
    rw [Nat.zero_add]
    have h5 := byteCells_at _ j x hj
    rw [← h8, List.getElem?_take] at h5
    split at h5
    · exact h5
    · cases h5)
  rw [hL] at this
  exact this

end Go.Proofs.Ytkiipbpcaakkoaa
