/-
  More laws for the walk, over any program. Conditions: as each states.
-/
import Derived.Test.YtkiipbpcaakkoaaLaws
namespace Go.Proofs.Ytkiipbpcaakkoaa
open Go.RowKit

theorem Rd.below {w w' : World} {B : Nat} {A : Option Addr} {l : List UInt8} (h : Rd w B A l) (hb : Below w.heap.size w w') : Rd w' B A l := fun hp => by
  obtain ⟨b, off, e, hne, hc⟩ := h hp
  exact ⟨b, off, e, hne, fun j c hj => (hb.cell (p := ⟨b, off + j, none⟩) (World.block_lt_of_cell? w _ (hc j c hj))).trans (hc j c hj)⟩

theorem below_trans' {w w1 w2 : World} (h1 : Below w.heap.size w w1) (h2 : Below w1.heap.size w1 w2) : Below w.heap.size w w2 := h1.trans (h2.mono h1.size)

theorem ret_str {a b : List UInt8} (h : a = b) : Ending.returned (.string ⟨a.toArray⟩) = .returned (.string ⟨b.toArray⟩) := by rw [h]

end Go.Proofs.Ytkiipbpcaakkoaa
