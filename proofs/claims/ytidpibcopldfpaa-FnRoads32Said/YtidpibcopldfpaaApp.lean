/-
  Appending bytes to a slice of the call's own, and slices.Grow of one: laws and a contract. Conditions: lengths below 225179981368000.
-/
import Derived.Test.YtidpibcopldfpaaSpecT
import Derived.Test.YtidpibcopldfpaaLaws2
import Derived.Deep.DeepAppendWide
import Derived.Lib.AppendStr
import Derived.Lib.AppendZerosOnto
namespace Go.Proofs.Ytidpibcopldfpaa
open Go.RowKit

/-- Block g is the call's own row, from B on, whose first bytes are l. -/
def Own (w : World) (B g cap : Nat) (E : TypeId) (l : List UInt8) : Prop :=
  B ≤ g ∧ l.length ≤ cap ∧ cap ≤ maxLen ∧ ∃ cur, Blk w g E cur ∧ cur.length = cap ∧ cur.take l.length = Lib.byteCells l

theorem Own.of_row {w : World} {B g cap n : Nat} {E : TypeId} {l : List UInt8} (h : w.ownsRow B E 1 (.slice (some ⟨g, 0, none⟩) n cap) n (Lib.byteCells l)) : n = l.length ∧ Own w B g cap E l := by
  have h1 := h.1
  rw [Lib.byteCells_length, Nat.mul_one] at h1
  rcases h.2 with ⟨h2, _⟩ | ⟨g', cap', cur, h2, hB, hg, hn, hc, hs, ht⟩
  · cases h2
  · simp only [Value.slice.injEq, Option.some.injEq, Addr.mk.injEq] at h2
    obtain ⟨⟨rfl, _⟩, _, rfl⟩ := h2
    refine ⟨h1.symm, hB, by omega, hc, cur.toList, by unfold Blk; rw [hg], by simpa using hs, ?_⟩
    rw [h1]
    simpa using ht

theorem Own.row {w : World} {B g cap : Nat} {E : TypeId} {l : List UInt8} (h : Own w B g cap E l) : w.ownsRow B E 1 (.slice (some ⟨g, 0, none⟩) l.length cap) l.length (Lib.byteCells l) := by
  obtain ⟨hB, h1, h2, cur, hb, hl, ht⟩ := h
  exact ⟨by rw [Lib.byteCells_length, Nat.mul_one], Or.inr ⟨g, cap, cur.toArray, rfl, hB, hb, h1, h2, by simpa using hl, by simpa using ht⟩⟩

theorem Own.bys {w : World} {B g cap : Nat} {E : TypeId} {l : List UInt8} (h : Own w B g cap E l) : Bys w (.slice (some ⟨g, 0, none⟩) l.length cap) l := owns_bys h.row

theorem Own.keep {w w' : World} {B g cap : Nat} {E : TypeId} {l : List UInt8} (h : Own w B g cap E l) (hb : Below w.heap.size w w') : Own w' B g cap E l := by
  obtain ⟨hB, h1, h2, cur, hbl, hl, ht⟩ := h
  exact ⟨hB, h1, h2, cur, hbl.below hb hbl.lt, hl, ht⟩

section
variable {P : Program} {w : World} {ops : Array Oper} {rest : List Oper} {o : Oper} {a : Act} {Q : Exit → Act → World → Prop}

/-- 'append(out, src...)' of bytes, out a row of the call's own that is not nil. -/
theorem wpList_append_bys (hgd : o.guard = none) (s x : Operand) (t : TypeId) (ho : o.op = .call { callee := .builtin .append, args := #[s, x], argTypes := #[t, t] })
    (B : Nat) (e : TypeId) (ht : P.underlying t = some (.slice e)) (hi : (P.info? e).map (fun i => (i.zero, i.size, i.bytes)) = some (some (.int .u8 0), 1, 1))
    (g cap : Nat) (l : List UInt8) (hown : Own w B g cap e l) (hs : a.eval s = .slice (some ⟨g, 0, none⟩) l.length cap) (v : Value) (m : List UInt8) (hb : Bys w v m) (hx : a.eval x = v)
    (hlen : l.length + m.length ≤ 225179981368000) (hB : B ≤ w.heap.size)
    (h : ∀ g' cap' w1, Hid (Own w1 B g' cap' e (l ++ m)) → Hid (w.grownBy w1 (some g)) → wpList P ops Q rest (a.put o.dst (.slice (some ⟨g', 0, none⟩) (l.length + m.length) cap')) w1) : wpList P ops Q (o :: rest) a w := by
  obtain ⟨i0, hi0, hz0, hz1, hz2⟩ := info_parts hi
  obtain ⟨A, c, rfl, hc, hcm, hcell⟩ := hb
  have hrow := hown.row
  have fin : ∀ v' w1, (Builtin.append_ #[t, t] o.type #[.slice (some ⟨g, 0, none⟩) l.length cap, .slice A m.length c]).run P w = .ok v' w1 → w1.ownsRow B e 1 v' (l.length + m.length) (Lib.byteCells l ++ Lib.byteCells m) → w.grownBy w1 (some g) → (v' = .slice none 0 0 ↔ (Value.slice (some ⟨g, 0, none⟩) l.length cap) = .slice none 0 0 ∧ m.length = 0) → wpList P ops Q (o :: rest) a w := by
    intro v' w1 hrun hr hg hnil
    have hne : v' ≠ .slice none 0 0 := fun hh => by have := (hnil.1 hh).1; cases this
    rw [← Lib.byteCells_append] at hr
    rcases hr.2 with ⟨h1, _⟩ | ⟨g', cap', cur, rfl, _⟩
    · exact absurd h1 hne
    · have hO := (Own.of_row hr).2
      refine wpList_plain hgd fun K hK => ?_
      unfold Oper.wp execOp
      simp only [ho, resolve, invoke, builtin, Sem.run_bind, Sem.run_pure, Result.andThen_ok, List.map_toArray, List.map_cons, List.map_nil, hs, hx, hrun]
      exact hK _ _ (h g' cap' w1 hO hg)
  cases A with
  | none =>
    have hm0 : m.length = 0 := by
      rcases Nat.eq_zero_or_pos m.length with h0 | h0
      · exact h0
      · obtain ⟨b, off, hh, _⟩ := hcell h0
        cases hh
    obtain rfl : m = [] := List.eq_nil_of_length_eq_zero hm0
    refine fin (.slice (some ⟨g, 0, none⟩) l.length cap) w ?_ (by rw [show Lib.byteCells [] = [] from rfl, List.append_nil]; exact hrow) (grown_refl _ _) (by simp)
    have hcl : l.length ≤ cap := hown.2.1
    simp [Builtin.append_, run_underlying ht, sizeOf, typeInfo, hi0, Builtin.lenOf, Builtin.firstCells, hcl, storeCells]
  | some ad =>
    have hcells : ∀ j u, (Lib.byteCells m)[j]? = some u → w.cell? (ad.add j) = some u := by
      intro j u hu
      have hj : j < m.length := by
        have := (List.getElem?_eq_some_iff.1 hu).1
        rwa [Lib.byteCells_length] at this
      obtain ⟨b, off, hh, _, hc2⟩ := hcell (by omega)
      obtain rfl : ad = ⟨b, off, none⟩ := by simpa using hh
      rw [Addr.add_mid]
      have hx' : m[j]? = some m[j] := List.getElem?_eq_getElem hj
      rw [hc2 j _ hx', ← hu, byteCells_at m j _ hx']
    obtain ⟨v', w1, hrun, h2, h3, h4⟩ := run_append_own_wide (P := P) w B t o.type e i0 (.int .u8 0) 1 1 ht hi0 hz0 hz1 hz2 rfl (by decide) _ _ _ hrow ad m.length c (Lib.byteCells m) (by rw [Lib.byteCells_length, Nat.mul_one]) hcells (Lib.byteCells_one m) (by unfold maxLen; omega) (by omega) hB
    exact fin v' w1 hrun h2 h3 h4
/-- An append whose run is known. -/
theorem wpList_append_run (hgd : o.guard = none) (s x : Operand) (t u : TypeId) (ho : o.op = .call { callee := .builtin .append, args := #[s, x], argTypes := #[t, u] }) (vs vx v : Value) (w1 : World)
    (hrun : ∀ ty, (Builtin.append_ #[t, u] ty #[vs, vx]).run P w = .ok v w1) (hs : a.eval s = vs) (hx : a.eval x = vx) (h : wpList P ops Q rest (a.put o.dst v) w1) : wpList P ops Q (o :: rest) a w := by
  refine wpList_plain hgd fun K hK => ?_
  unfold Oper.wp execOp
  simp only [ho, resolve, invoke, builtin, Sem.run_bind, Sem.run_pure, Result.andThen_ok, List.map_toArray, List.map_cons, List.map_nil, hs, hx, hrun]
  exact hK _ _ h
end

theorem owns_new {w : World} {E : TypeId} (B : Nat) (hB : B ≤ w.heap.size) : Own (w.alloc (.cells #[] E)) B w.heap.size 0 E [] :=
  ⟨hB, Nat.le_refl _, Nat.zero_le _, [], Blk.new w E [], rfl, rfl⟩

set_option maxHeartbeats 1000000 in
set_option maxRecDepth 100000 in
theorem grow_room (B g cap n : Nat) (l : List UInt8) (w : World) (ho : Own w B g cap 5 l) (hn : l.length + n ≤ cap) :
    Calls Try.prog 33 #[.slice (some ⟨g, 0, none⟩) l.length cap, .int .i64 (n : Int)] w fun e w' => e = .returned (.slice (some ⟨g, 0, none⟩) l.length cap) ∧ w = w' := by
  have hc := ho.2.2.1
  unfold maxLen at hc
  clear ho
  go_enter Try.func33, Try.ntmps33
  go_wp2
  go_ret
  exact ⟨rfl, rfl⟩

theorem zeroCells1 (n : Nat) : Builtin.zeroCells (Value.int .u8 0).cells n = (List.replicate n (Value.int .u8 0)).toArray := by
  apply Array.ext
  · simp [Builtin.zeroCells, Value.cells]
  · intro i h1 h2
    simp [Builtin.zeroCells, Value.cells, Nat.mod_one]

set_option maxHeartbeats 1000000 in
set_option maxRecDepth 100000 in
theorem grow_grow (B g cap n : Nat) (l : List UInt8) (w : World) (ho : Own w B g cap 5 l) (hB : B ≤ w.heap.size) (hn : cap < l.length + n) (hbig : l.length + n ≤ 225179981368000) :
    Calls Try.prog 33 #[.slice (some ⟨g, 0, none⟩) l.length cap, .int .i64 (n : Int)] w fun e w' => ∃ g' cap', e = .returned (.slice (some ⟨g', 0, none⟩) l.length cap') ∧ Own w' B g' cap' 5 l ∧ l.length + n ≤ cap' ∧ Below w.heap.size w w' ∧ w.heap.size ≤ g' := by
  obtain ⟨i0, hi0, hz0, hz1, hz2⟩ := info_parts byteInfo'
  obtain ⟨hBg, hc, hcm, cur, hb, hl, ht⟩ := ho
  unfold maxLen at hcm
  have hold : (Builtin.firstCells i0.size cap (.slice (some ⟨g, 0, none⟩) cap cap)).run Try.prog w.drew = .ok cur.toArray w.drew := by
    rw [hz1]
    exact run_firstCells_some w.drew 1 cap ⟨g, 0, none⟩ cap cap cur (by rw [hl, Nat.mul_one]) (fun j v hj => by
      rw [Addr.add_mid, Nat.zero_add]
      exact (hb.drew.cell j).trans hj)
  obtain ⟨G, hG⟩ : ∃ G, G = grownCap w (l.length + n) cap 5 := ⟨_, rfl⟩
  have hG1 : l.length + n ≤ G := by rw [hG]; exact grownCap_ge w _ _ _
  have hG2 : G ≤ 9223372036854775807 := by
    have := grownCap_le_maxLen w (l.length + n) cap 5 (by unfold maxLen; omega)
    rw [← hG] at this
    unfold maxLen at this
    omega
  obtain ⟨W, hW⟩ : ∃ W, W = w.drew.alloc (.cells (cur ++ (List.replicate (l.length + n - cap) (Value.int .u8 0) ++ List.replicate (G - (l.length + n)) (Value.int .u8 0))).toArray 5) := ⟨_, rfl⟩
  have hrz : ∀ ty, (Builtin.append_ #[22, 3] ty #[.slice (some ⟨g, 0, none⟩) cap cap, .int .i64 ((n : Int) - ((cap : Int) - (l.length : Int)))]).run Try.prog w = .ok (.slice (some ⟨w.heap.size, 0, none⟩) (l.length + n) G) W := fun ty => by
    have h := Lib.run_append_grow_zeros (P := Try.prog) w 22 3 ty 5 i0 (.int .u8 0) .i64 .i64 Try.underlying22 Try.underlying3 hi0 hz0 (some ⟨g, 0, none⟩) cap cap cur hold (l.length + n - cap) (by omega) (by omega) (by omega) (by omega) (by rw [hz2]; omega)
      (by rw [show cap + (l.length + n - cap) = l.length + n by omega]; exact growslice_fits_wide (by omega) (by rw [hz2]; omega))
    rw [show cap + (l.length + n - cap) = l.length + n by omega, ← hG, zeroCells1, zeroCells1] at h
    rw [show (n : Int) - ((cap : Int) - (l.length : Int)) = ((l.length + n - cap : Nat) : Int) by omega, hW]
    rw [h]
    simp only [List.append_assoc, List.append_toArray]
  have HO : Hid (Own W B w.heap.size G 5 l ∧ Below w.heap.size w W) := by
    refine ⟨⟨hB, by omega, by unfold maxLen; omega, _, by rw [hW]; exact Blk.new w.drew _ _, by simp; omega, ?_⟩, ?_⟩
    · rw [List.take_append_of_le_length (by omega), ht]
    · rw [hW]; exact ((Below.refl _ w).drew).alloc (Nat.le_refl _) _
  clear hold hG hW hb hl ht
  go_enter Try.func33, Try.ntmps33
  have HRZ := Lib.hid hrz
  clear hrz
  go_wp2_with ((with_reducible refine wpList_append_run rfl (.tmp 20) (.tmp 21) 22 3 rfl _ _ _ _ HRZ.out ?_ ?_ ?_); rfl; rfl)
  go_ret
  exact ⟨_, _, rfl, HO.out.1, hG1, HO.out.2, Nat.le_refl _⟩

end Go.Proofs.Ytidpibcopldfpaa
