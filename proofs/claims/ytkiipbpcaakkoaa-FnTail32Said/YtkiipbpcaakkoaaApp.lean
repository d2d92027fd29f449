/-
  Appending bytes to a slice of the call's own, and slices.Grow of one: laws and a contract. Conditions: lengths below 225179981368000.
-/
import Derived.Test.YtkiipbpcaakkoaaSpecT
import Derived.Test.YtkiipbpcaakkoaaLaws2
import Derived.Deep.DeepAppendWide
import Derived.Lib.AppendStr
import Derived.Lib.AppendZerosOnto
namespace Go.Proofs.Ytkiipbpcaakkoaa
open Go.RowKit

/-- Block g is the call's own row, from B on, whose first bytes are l. -/
def Own (w : World) (B g cap : Nat) (E : TypeId) (l : List UInt8) : Prop :=
  B ≤ g ∧ l.length ≤ cap ∧ cap ≤ maxLen ∧ ∃ cur, Blk w g E cur ∧ cur.length = cap ∧ cur.take l.length = Lib.byteCells l

theorem Own.of_row {w : World} {B g cap n : Nat} {E : TypeId} {l : List UInt8} (h : w.ownsRow B E 1 (.slice (some ⟨g, 0, none⟩) n cap) n (Lib.byteCells l)) : n = l.length ∧ Own w B g cap E l := by
  have h1 := h.1
  rw [Lib.byteCells_length, Nat.mul_one] at h1
  rcases h.2 with ⟨h2, _⟩ | ⟨g', cap', cur, h2, hB, hg, hn, hc, hs, ht⟩
  · cases h2
  · simp only [Value.slice.injEq, Option.some.injEq, Addr.mk.injEq] at h2
    obtain ⟨⟨rfl, _⟩, _, rfl⟩ := h2
    refine ⟨h1.symm, hB, by omega, hc, cur.toList, by unfold Blk; rw [hg], by simpa using hs, ?_⟩
    rw [h1]
    simpa using ht

theorem Own.row {w : World} {B g cap : Nat} {E : TypeId} {l : List UInt8} (h : Own w B g cap E l) : w.ownsRow B E 1 (.slice (some ⟨g, 0, none⟩) l.length cap) l.length (Lib.byteCells l) := by
  obtain ⟨hB, h1, h2, cur, hb, hl, ht⟩ := h
  exact ⟨by rw [Lib.byteCells_length, Nat.mul_one], Or.inr ⟨g, cap, cur.toArray, rfl, hB, hb, h1, h2, by simpa using hl, by simpa using ht⟩⟩

theorem Own.bys {w : World} {B g cap : Nat} {E : TypeId} {l : List UInt8} (h : Own w B g cap E l) : Bys w (.slice (some ⟨g, 0, none⟩) l.length cap) l := owns_bys h.row

theorem Own.keep {w w' : World} {B g cap : Nat} {E : TypeId} {l : List UInt8} (h : Own w B g cap E l) (hb : Below w.heap.size w w') : Own w' B g cap E l := by
  obtain ⟨hB, h1, h2, cur, hbl, hl, ht⟩ := h
  exact ⟨hB, h1, h2, cur, hbl.below hb hbl.lt, hl, ht⟩

section
variable {P : Program} {w : World} {ops : Array Oper} {rest : List Oper} {o : Oper} {a : Act} {Q : Exit → Act → World → Prop}

/-- 'append(out, src...)' of bytes, out a row of the call's own that is not nil. -/
theorem wpList_append_bys (hgd : o.guard = none) (s x : Operand) (t : TypeId) (ho : o.op = .call { callee := .builtin .append, args := #[s, x], argTypes := #[t, t] })
    (B : Nat) (e : TypeId) (ht : P.underlying t = some (.slice e)) (hi : (P.info? e).map (fun i => (i.zero, i.size, i.bytes)) = some (some (.int .u8 0), 1, 1))
    (g cap : Nat) (l : List UInt8) (hown : Own w B g cap e l) (hs : a.eval s = .slice (some ⟨g, 0, none⟩) l.length cap) (v : Value) (m : List UInt8) (hb : Bys w v m) (hx : a.eval x = v)
    (hlen : l.length + m.length ≤ 225179981368000) (hB : B ≤ w.heap.size)
    (h : ∀ g' cap' w1, Hid (Own w1 B g' cap' e (l ++ m)) → Hid (w.grownBy w1 (some g)) → wpList P ops Q rest (a.put o.dst (.slice (some ⟨g', 0, none⟩) (l.length + m.length) cap')) w1) : wpList P ops Q (o :: rest) a w := by
  obtain ⟨i0, hi0, hz0, hz1, hz2⟩ := info_parts hi
  obtain ⟨A, c, rfl, hc, hcm, hcell⟩ := hb
  have hrow := hown.row
  have fin : ∀ v' w1, (Builtin.append_ #[t, t] o.type #[.slice (some ⟨g, 0, none⟩) l.length cap, .slice A m.length c]).run P w = .ok v' w1 → w1.ownsRow B e 1 v' (l.length + m.length) (Lib.byteCells l ++ Lib.byteCells m) → w.grownBy w1 (some g) → (v' = .slice none 0 0 ↔ (Value.slice (some ⟨g, 0, none⟩) l.length cap) = .slice none 0 0 ∧ m.length = 0) → wpList P ops Q (o :: rest) a w := by
    intro v' w1 hrun hr hg hnil
    have hne : v' ≠ .slice none 0 0 := fun hh => by have := (hnil.1 hh).1; cases this
    rw [← Lib.byteCells_append] at hr
    rcases hr.2 with ⟨h1, _⟩ | ⟨g', cap', cur, rfl, _⟩
    · exact absurd h1 hne
    · have hO := (Own.of_row hr).2
      refine wpList_plain hgd fun K hK => ?_
      unfold Oper.wp execOp
      simp only [ho, resolve, invoke, builtin, Sem.run_bind, Sem.run_pure, Result.andThen_ok, List.map_toArray, List.map_cons, List.map_nil, hs, hx, hrun]
      exact hK _ _ (h g' cap' w1 hO hg)
  cases A with
  | none =>
    have hm0 : m.length = 0 := by
      rcases Nat.eq_zero_or_pos m.length with h0 | h0
      · exact h0
      · obtain ⟨b, off, hh, _⟩ := hcell h0
        cases hh
    obtain rfl : m = [] := List.eq_nil_of_length_eq_zero hm0
    refine fin (.slice (some ⟨g, 0, none⟩) l.length cap) w ?_ (by rw [show Lib.byteCells [] = [] from rfl, List.append_nil]; exact hrow) (grown_refl _ _) (by simp)
    have hcl : l.length ≤ cap := hown.2.1
    simp [Builtin.append_, run_underlying ht, sizeOf, typeInfo, hi0, Builtin.lenOf, Builtin.firstCells, hcl, storeCells]
  | some ad =>
    have hcells : ∀ j u, (Lib.byteCells m)[j]? = some u → w.cell? (ad.add j) = some u := by
      intro j u hu
      have hj : j < m.length := by
        have := (List.getElem?_eq_some_iff.1 hu).1
        rwa [Lib.byteCells_length] at this
      obtain ⟨b, off, hh, _, hc2⟩ := hcell (by omega)
      obtain rfl : ad = ⟨b, off, none⟩ := by simpa using hh
      rw [Addr.add_mid]
      have hx' : m[j]? = some m[j] := List.getElem?_eq_getElem hj
      rw [hc2 j _ hx', ← hu, byteCells_at m j _ hx']
    obtain ⟨v', w1, hrun, h2, h3, h4⟩ := run_append_own_wide (P := P) w B t o.type e i0 (.int .u8 0) 1 1 ht hi0 hz0 hz1 hz2 rfl (by decide) _ _ _ hrow ad m.length c (Lib.byteCells m) (by rw [Lib.byteCells_length, Nat.mul_one]) hcells (Lib.byteCells_one m) (by unfold maxLen; omega) (by omega) hB
    exact fin v' w1 hrun h2 h3 h4
/-- An append whose run is known. -/
theorem wpList_append_run (hgd : o.guard = none) (s x : Operand) (t u : TypeId) (ho : o.op = .call { callee := .builtin .append, args := #[s, x], argTypes := #[t, u] }) (vs vx v : Value) (w1 : World)
    (hrun : ∀ ty, (Builtin.append_ #[t, u] ty #[vs, vx]).run P w = .ok v w1) (hs : a.eval s = vs) (hx : a.eval x = vx) (h : wpList P ops Q rest (a.put o.dst v) w1) : wpList P ops Q (o :: rest) a w := by
  refine wpList_plain hgd fun K hK => ?_
  unfold Oper.wp execOp
  simp only [ho, resolve, invoke, builtin, Sem.run_bind, Sem.run_pure, Result.andThen_ok, List.map_toArray, List.map_cons, List.map_nil, hs, hx, hrun]
  exact hK _ _ h
end

theorem owns_new {w : World} {E : TypeId} (B : Nat) (hB : B ≤ w.heap.size) : Own (w.alloc (.cells #[] E)) B w.heap.size 0 E [] :=
  ⟨hB, Nat.le_refl _, Nat.zero_le _, [], Blk.new w E [], rfl, rfl⟩

theorem zeroCells1 (n : Nat) : Builtin.zeroCells (Value.int .u8 0).cells n = (List.replicate n (Value.int .u8 0)).toArray := by
  apply Array.ext
  · simp [Builtin.zeroCells, Value.cells]
  · intro i h1 h2
    simp [Builtin.zeroCells, Value.cells, Nat.mod_one]

end Go.Proofs.Ytkiipbpcaakkoaa
