/-
  Laws for the walk, over any program: a block that is known whole; a new variable of a struct type; a struct boxed; a string copied into a row. Conditions: as each states.
-/
import Derived.Test.YteanofipadcakaaPlain
import Derived.WalkKit
import Derived.WalkSpells
import Derived.WalkLawsBesides
import Derived.Lib.Hide
import Derived.Lib.BufferWrite
import Derived.Laws.CopyOwn
import Derived.Deep.QuietTactic
import Derived.BigQuiet
import Derived.Deep.Draws
import Derived.Laws.Rows
namespace Go.Proofs.Yteanofipadcakaa
open Go.RowKit

/-- Block g is just the cells cs of element type t, none frozen. -/
def Blk (w : World) (g : Nat) (t : TypeId) (cs : List Value) : Prop := w.heap[g]? = some (.cells cs.toArray t (0, 0))

section
variable {w w' : World} {g : Nat} {t : TypeId} {cs : List Value}
theorem Blk.lt (h : Blk w g t cs) : g < w.heap.size := by
  rcases Nat.lt_or_ge g w.heap.size with hlt | hge
  · exact hlt
  · unfold Blk at h; rw [Array.getElem?_eq_none hge] at h; cases h
theorem Blk.cell (h : Blk w g t cs) (i : Nat) : w.cell? ⟨g, i, none⟩ = cs[i]? := by
  rw [cell_of_row w g i _ t (0, 0) h]; simp
theorem Blk.frozen (h : Blk w g t cs) (i : Nat) : w.frozen? ⟨g, i, none⟩ = false := by
  unfold Blk at h
  simp [World.frozen?, h]
theorem Blk.new (w : World) (t : TypeId) (cs : List Value) : Blk (w.alloc (.cells cs.toArray t)) w.heap.size t cs := heap_alloc_new w _
theorem Blk.drew (h : Blk w g t cs) : Blk w.drew g t cs := h
theorem Blk.drewN (h : Blk w g t cs) (n : Nat) : Blk (w.drewN n) g t cs := h
theorem Blk.alloc (h : Blk w g t cs) (o : Obj) : Blk (w.alloc o) g t cs := (Below.heap_alloc w o g h.lt).trans h
theorem Blk.set_ (h : Blk w g t cs) (i : Nat) (u : Value) : Blk (w.setCell ⟨g, i, none⟩ u) g t (cs.set i u) := by
  unfold Blk at h ⊢
  rw [heap_setCell_same w g i _ t u h]
  simp
theorem Blk.far (h : Blk w g t cs) {p : Addr} (hp : g ≠ p.block) (u : Value) : Blk (w.setCell p u) g t cs := (Below.heap_setCell w p u g hp).trans h
theorem Blk.below {B : Nat} (h : Blk w g t cs) (hb : Below B w w') (hg : g < B) : Blk w' g t cs := (hb.block g hg).trans h
theorem Blk.grown {row : Option Nat} (h : Blk w g t cs) (hb : w.grownBy w' row) (hg : some g ≠ row) : Blk w' g t cs := (hb.block g h.lt hg).trans h
end

theorem below_drewN {B : Nat} {a w : World} (h : Below B a w) (n : Nat) : Below B a (w.drewN n) := ⟨h.os, h.tape, h.output, h.size, h.block⟩

section
variable {P : Program} {w : World} {ops : Array Oper} {rest : List Oper} {o : Oper} {a : Act} {Q : Exit → Act → World → Prop}

/-- 'new(T)', T a struct or an array whose zero value has the cells Z. -/
theorem wpList_alloc_row (hgd : o.guard = none) (t : TypeId) (ho : o.op = .alloc t) (Z : List Value) (hz : (P.info? t).bind (·.zero) = some (.agg Z.toArray))
    (h : ∀ w1, Hid (Blk w1 w.heap.size t Z) → Hid (w1 = w.alloc (.cells Z.toArray t)) → wpList P ops Q rest (a.put o.dst (.pointer (some ⟨w.heap.size, 0, none⟩))) w1) : wpList P ops Q (o :: rest) a w := by
  refine wpList_plain hgd fun K hK => ?_
  cases hq : P.info? t with
  | none => simp [hq] at hz
  | some i =>
    have hz' : i.zero = some (.agg Z.toArray) := by simpa [hq] using hz
    unfold Oper.wp
    simp [execOp, ho, Instr.alloc, zeroValue, typeInfo, hq, hz', newVar, newRow, Value.cells, Result.andThen]
    exact hK _ _ (h _ (Blk.new w t Z) rfl)

/-- A struct by value goes into a block of its own. -/
theorem wpList_box_row (hgd : o.guard = none) (t : TypeId) (x : Operand) (ho : o.op = .box t x) (Z : List Value) (hx : a.eval x = .agg Z.toArray)
    (h : ∀ w1, Hid (Blk w1 w.heap.size t Z) → Hid (w1 = w.alloc (.cells Z.toArray t)) → wpList P ops Q rest (a.put o.dst (.pointer (some ⟨w.heap.size, 0, none⟩))) w1) : wpList P ops Q (o :: rest) a w := by
  refine wpList_plain hgd fun K hK => ?_
  unfold Oper.wp
  simp [execOp, ho, hx, Instr.box, newVar, newRow, Value.cells, Result.andThen]
  exact hK _ _ (h _ (Blk.new w t Z) rfl)

/-- A struct is read whole out of a block that is known whole. -/
theorem wpList_load_blk (hgd : o.guard = none) (ty : TypeId) (x : Operand) (ho : o.op = .load ty x) (g : Nat) (t : TypeId) (cs : List Value) (hg : Blk w g t cs) (fs : Array Field) (hu : P.underlying ty = some (.struct fs))
    (hi : (P.info? ty).map (·.size) = some cs.length) (hx : a.eval x = .pointer (some ⟨g, 0, none⟩)) (h : wpList P ops Q rest (a.put o.dst (.agg cs.toArray)) w) : wpList P ops Q (o :: rest) a w :=
  wpList_load_row hgd ty x ho g hx t cs.toArray (0, 0) _ hg hu rfl (by rw [hi, List.size_toArray]) h

/-- 'copy(d, s)', s a string that fits into d, d in a row that is known whole. -/
theorem wpList_copy_str (hgd : o.guard = none) (d s : Operand) (dT sT : TypeId) (ho : o.op = .call { callee := .builtin .copy, args := #[d, s], argTypes := #[dT, sT] })
    (elem : TypeId) (hu : P.underlying dT = some (.slice elem)) (hsz : (P.info? elem).map (·.size) = some 1) (g off dLen dCap : Nat) (str : ByteArray)
    (hd : a.eval d = .slice (some ⟨g, off, none⟩) dLen dCap) (hs : a.eval s = .string str) (cur : List Value) (t : TypeId) (hg : Blk w g t cur) (hle : str.size ≤ dLen) (hfit : off + str.size ≤ cur.length)
    (h : ∀ w1, Hid (Blk w1 g t (splice cur off (Lib.byteCells str.data.toList))) → Hid (w.grownBy w1 (some g)) → wpList P ops Q rest (a.put o.dst (goInt str.size)) w1) : wpList P ops Q (o :: rest) a w := by
  refine wpList_plain hgd fun K hK => ?_
  have hrun := Lib.run_copy_row_string (P := P) w dT sT o.type elem g off dLen dCap str cur.toArray t hu hsz hg hle (by simpa using hfit)
  unfold Oper.wp
  simp [execOp, ho, resolve, invoke, builtin, hd, hs, hrun, Result.andThen]
  refine hK _ _ (h _ ?_ ?_)
  · show _ = _
    rw [setRow_heap w g _ _ t _ hg]
    have hbl : (Lib.byteCells str.data.toList).length = str.size := by rw [Lib.byteCells_length]; simp
    simp [splice, hbl]
  · exact ⟨rfl, rfl, rfl, by simp [World.setRow], fun k _ hk => setRow_other w g k _ (fun e => hk (by rw [e]))⟩
end

end Go.Proofs.Yteanofipadcakaa
