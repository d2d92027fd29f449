/-
  More laws for the walk, over any program: a block that is known whole, whatever the mark behind its end; '[]byte(s)'; a []byte parted. Conditions: as each states.
-/
import Derived.Test.YtkiipbpcaakkoaaHelp
import Derived.Lib.ConvBytes
namespace Go.Proofs.Ytkiipbpcaakkoaa
open Go.RowKit

/-- Block g is just the cells cs of element type t, none of them frozen. -/
def Blm (w : World) (g : Nat) (t : TypeId) (cs : List Value) : Prop := ∃ fr : Nat × Nat, w.heap[g]? = some (.cells cs.toArray t fr) ∧ (fr = (0, 0) ∨ cs.length ≤ fr.1)

theorem Blk.blm {w : World} {g : Nat} {t : TypeId} {cs : List Value} (h : Blk w g t cs) : Blm w g t cs := ⟨(0, 0), h, Or.inl rfl⟩

section
variable {w w' : World} {g : Nat} {t : TypeId} {cs : List Value}
theorem Blm.lt (h : Blm w g t cs) : g < w.heap.size := by
  obtain ⟨fr, h, _⟩ := h
  rcases Nat.lt_or_ge g w.heap.size with hlt | hge
  · exact hlt
  · rw [Array.getElem?_eq_none hge] at h; cases h
theorem Blm.cell (h : Blm w g t cs) (i : Nat) : w.cell? ⟨g, i, none⟩ = cs[i]? := by
  obtain ⟨fr, h, _⟩ := h
  rw [cell_of_row w g i _ t fr h]; simp
theorem Blm.frozen (h : Blm w g t cs) (i : Nat) (hi : i < cs.length) : w.frozen? ⟨g, i, none⟩ = false := by
  obtain ⟨fr, h, hf⟩ := h
  obtain ⟨lo, hi'⟩ := fr
  simp only [World.frozen?, h]
  rcases hf with hf | hf
  · simp only [Prod.mk.injEq] at hf
    obtain ⟨rfl, rfl⟩ := hf
    simp
  · simp only at hf
    simp
    omega
theorem Blm.drewN (h : Blm w g t cs) (n : Nat) : Blm (w.drewN n) g t cs := h
theorem Blm.alloc (h : Blm w g t cs) (o : Obj) : Blm (w.alloc o) g t cs := by
  have hl := h.lt
  obtain ⟨fr, h, hf⟩ := h
  exact ⟨fr, (Below.heap_alloc w o g hl).trans h, hf⟩
theorem Blm.set_ (h : Blm w g t cs) (i : Nat) (u : Value) : Blm (w.setCell ⟨g, i, none⟩ u) g t (cs.set i u) := by
  obtain ⟨fr, h, hf⟩ := h
  refine ⟨fr, ?_, by rw [List.length_set]; exact hf⟩
  have : (w.setCell ⟨g, i, none⟩ u).heap[g]? = (w.heap[g]?).map (fun o => match o with | .cells C t fr => .cells (C.setIfInBounds i u) t fr | o => o) := by
    simp only [World.setCell, Array.getElem?_modify, if_true]
    cases w.heap[g]? with
    | none => rfl
    | some o => cases o <;> rfl
  rw [this, h]
  simp
theorem Blm.far (h : Blm w g t cs) {p : Addr} (hp : g ≠ p.block) (u : Value) : Blm (w.setCell p u) g t cs := by
  obtain ⟨fr, h, hf⟩ := h
  exact ⟨fr, (Below.heap_setCell w p u g hp).trans h, hf⟩
theorem Blm.below {B : Nat} (h : Blm w g t cs) (hb : Below B w w') (hg : g < B) : Blm w' g t cs := by
  obtain ⟨fr, h, hf⟩ := h
  exact ⟨fr, (hb.block g hg).trans h, hf⟩
theorem Blm.grown {row : Option Nat} (h : Blm w g t cs) (hb : w.grownBy w' row) (hg : some g ≠ row) : Blm w' g t cs := by
  have hl := h.lt
  obtain ⟨fr, h, hf⟩ := h
  exact ⟨fr, (hb.block g hl hg).trans h, hf⟩
end

/-- A whole block of bytes, from a place on, as a slice. -/
theorem Bys.of_blm {w : World} {g : Nat} {t : TypeId} {cs : List Value} (h : Blm w g t cs) (o c : Nat) (l : List UInt8) (hc : l.length ≤ c) (hm : c ≤ maxLen) (hl : ∀ j x, l[j]? = some x → cs[o + j]? = some (.int .u8 (x.toNat : Int))) : Bys w (.slice (some ⟨g, o, none⟩) l.length c) l :=
  ⟨_, c, rfl, hc, hm, fun _ => ⟨g, o, rfl, h.lt, fun j x hj => (h.cell _).trans (hl j x hj)⟩⟩

/-- '[]byte(s)': a new block that reads as the string. -/
theorem conv_bytes {P : Program} (w : World) (st dt e : TypeId) (s : ByteArray) (hs : P.underlying st = some .string) (hd : P.underlying dt = some (.slice e)) (he : P.underlying e = some (.int .u8)) (hl : s.size ≤ 1125899906842624) :
    ∃ c w1, s.size ≤ c ∧ c ≤ maxLen ∧ (convert st dt (.string s)).run P w = .ok (.slice (some ⟨w.heap.size, 0, none⟩) s.size c) w1 ∧ Below w.heap.size w w1 ∧ w1.heap.size = w.heap.size + 1 ∧ ∃ cs, Blm w1 w.heap.size e cs ∧ cs.length = c ∧ cs.take s.size = Lib.byteCells s.data.toList := by
  have hge := grownCap_ge w s.size 0 e
  have hle := grownCap_le_maxLen w s.size 0 e (by unfold maxLen; omega)
  have hcl : (Lib.bytesCells w e s).toList.length = grownCap w s.size 0 e := by
    simp [Lib.bytesCells]
    have : s.data.size = s.size := rfl
    omega
  refine ⟨grownCap w s.size 0 e, Lib.bytesWorld w e s, hge, hle, Lib.run_convert_string_bytes w st dt e s hs hd he, ⟨rfl, rfl, rfl, by rw [Lib.bytesWorld_size]; omega, fun k hk => Lib.bytesWorld_at_old w e s k hk⟩, Lib.bytesWorld_size w e s, (Lib.bytesCells w e s).toList, ⟨_, Lib.bytesWorld_at_new w e s, Or.inr ?_⟩, hcl, ?_⟩
  · simp
  · unfold Lib.bytesCells
    rw [Array.toList_append, List.take_append_of_le_length (by simp), List.take_of_length_le (by simp)]
    simp [Lib.byteCells]

end Go.Proofs.Ytkiipbpcaakkoaa
