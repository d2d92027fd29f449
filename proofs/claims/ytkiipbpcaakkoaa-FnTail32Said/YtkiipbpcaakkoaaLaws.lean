/-
  Laws for the walk, over any program: a block that is known whole; a new variable of a struct type; a struct boxed; a string copied into a row. Conditions: as each states.
-/
import Derived.Test.YtkiipbpcaakkoaaPlain
import Derived.WalkKit
import Derived.WalkSpells
import Derived.WalkLawsBesides
import Derived.Lib.Hide
import Derived.Lib.BufferWrite
import Derived.Laws.CopyOwn
import Derived.Deep.QuietTactic
import Derived.BigQuiet
import Derived.Deep.Draws
import Derived.Laws.Rows
import Derived.Deep.MidRow
import Derived.Deep.OwnRows
import Derived.Laws.BytesArg
namespace Go.Proofs.Ytkiipbpcaakkoaa
open Go.RowKit

/-- Block g is just the cells cs of element type t, none frozen. -/
def Blk (w : World) (g : Nat) (t : TypeId) (cs : List Value) : Prop := w.heap[g]? = some (.cells cs.toArray t (0, 0))

section
variable {w w' : World} {g : Nat} {t : TypeId} {cs : List Value}
theorem Blk.lt (h : Blk w g t cs) : g < w.heap.size := by
  rcases Nat.lt_or_ge g w.heap.size with hlt | hge
  · exact hlt
  · unfold Blk at h; rw [Array.getElem?_eq_none hge] at h; cases h
theorem Blk.cell (h : Blk w g t cs) (i : Nat) : w.cell? ⟨g, i, none⟩ = cs[i]? := by
  rw [cell_of_row w g i _ t (0, 0) h]; simp
theorem Blk.frozen (h : Blk w g t cs) (i : Nat) : w.frozen? ⟨g, i, none⟩ = false := by
  unfold Blk at h
  simp [World.frozen?, h]
theorem Blk.new (w : World) (t : TypeId) (cs : List Value) : Blk (w.alloc (.cells cs.toArray t)) w.heap.size t cs := heap_alloc_new w _
theorem Blk.drew (h : Blk w g t cs) : Blk w.drew g t cs := h
theorem Blk.drewN (h : Blk w g t cs) (n : Nat) : Blk (w.drewN n) g t cs := h
theorem Blk.alloc (h : Blk w g t cs) (o : Obj) : Blk (w.alloc o) g t cs := (Below.heap_alloc w o g h.lt).trans h
theorem Blk.set_ (h : Blk w g t cs) (i : Nat) (u : Value) : Blk (w.setCell ⟨g, i, none⟩ u) g t (cs.set i u) := by
  unfold Blk at h ⊢
  rw [heap_setCell_same w g i _ t u h]
  simp
theorem Blk.far (h : Blk w g t cs) {p : Addr} (hp : g ≠ p.block) (u : Value) : Blk (w.setCell p u) g t cs := (Below.heap_setCell w p u g hp).trans h
theorem Blk.below {B : Nat} (h : Blk w g t cs) (hb : Below B w w') (hg : g < B) : Blk w' g t cs := (hb.block g hg).trans h
theorem Blk.grown {row : Option Nat} (h : Blk w g t cs) (hb : w.grownBy w' row) (hg : some g ≠ row) : Blk w' g t cs := (hb.block g h.lt hg).trans h
end

/-- The numbers in a slice's slot. -/
def lenOfV : Value → Nat | .slice _ n _ => n | _ => 0

/-- What lies behind an address reads as some bytes, and not in block B. -/
def Rd (w : World) (B : Nat) (A : Option Addr) (l : List UInt8) : Prop :=
  0 < l.length → ∃ b off, A = some ⟨b, off, none⟩ ∧ b ≠ B ∧ ∀ j c, l[j]? = some c → w.cell? ⟨b, off + j, none⟩ = some (.int .u8 (c.toNat : Int))

theorem Rd.keep {w w' : World} {B : Nat} {A : Option Addr} {l : List UInt8} (h : Rd w B A l) (hk : ∀ b o, b ≠ B → w'.cell? ⟨b, o, none⟩ = w.cell? ⟨b, o, none⟩) : Rd w' B A l := fun hp => by
  obtain ⟨b, off, e, hb, hc⟩ := h hp
  exact ⟨b, off, e, hb, fun j c hj => (hk b _ hb).trans (hc j c hj)⟩

theorem grown_refl (w : World) (row : Option Nat) : w.grownBy w row := ⟨rfl, rfl, rfl, Nat.le_refl _, fun _ _ _ => rfl⟩
theorem grown_trans {a b c : World} {row : Option Nat} (h : a.grownBy b row) (k : b.grownBy c row) : a.grownBy c row :=
  ⟨k.os.trans h.os, k.tape.trans h.tape, k.output.trans h.output, Nat.le_trans h.size k.size, fun i hi hne => (k.block i (Nat.lt_of_lt_of_le hi h.size) hne).trans (h.block i hi hne)⟩
theorem grown_drewN {a w : World} {row : Option Nat} (h : a.grownBy w row) (n : Nat) : a.grownBy (w.drewN n) row := ⟨h.os, h.tape, h.output, h.size, h.block⟩
theorem grown_set {a w : World} {g : Nat} (h : a.grownBy w (some g)) (i : Nat) (v : Value) : a.grownBy (w.setCell ⟨g, i, none⟩ v) (some g) :=
  ⟨h.os, h.tape, h.output, by simpa [World.setCell] using h.size, fun k hk hne => (Below.heap_setCell w _ v k (fun e => hne (by simp [e]))).trans (h.block k hk hne)⟩
theorem grown_alloc {a w : World} {row : Option Nat} (h : a.grownBy w row) (o : Obj) : a.grownBy (w.alloc o) row :=
  ⟨h.os, h.tape, h.output, Nat.le_trans h.size (by simp), fun i hi hne => (Below.heap_alloc w o i (Nat.lt_of_lt_of_le hi h.size)).trans (h.block i hi hne)⟩
theorem grown_below {B : Nat} {a w : World} {g : Nat} (h : a.grownBy w (some g)) (hB : B ≤ g) (hs : B ≤ a.heap.size) : Below B a w :=
  ⟨h.os, h.tape, h.output, h.size, fun k hk => h.block k (by omega) (fun e => by cases e; omega)⟩

theorem Rd.grown {w w' : World} {g : Nat} {A : Option Addr} {l : List UInt8} (h : Rd w g A l) (hg : w.grownBy w' (some g)) : Rd w' g A l := fun hp => by
  obtain ⟨b, off, e, hb, hc⟩ := h hp
  exact ⟨b, off, e, hb, fun j c hj => hg.cell (hc j c hj) (by simpa using hb)⟩

theorem Rd.drop {w : World} {B b off : Nat} {l : List UInt8} (h : Rd w B (some ⟨b, off, none⟩) l) (k : Nat) (off' : Nat) (he : k < l.length → off' = off + k) : Rd w B (some ⟨b, off', none⟩) (l.drop k) := fun hp => by
  have hk : k < l.length := by simp at hp; omega
  obtain ⟨b1, off1, e, hb, hc⟩ := h (by omega)
  obtain ⟨rfl, rfl⟩ : b = b1 ∧ off = off1 := by simpa using e
  refine ⟨b, off', rfl, hb, fun j c hj => ?_⟩
  rw [he hk, Nat.add_assoc]
  exact hc _ c (by rw [← hj, List.getElem?_drop])

/-- A slice value that reads as some bytes. -/
def Bys (w : World) (v : Value) (l : List UInt8) : Prop :=
  ∃ A c, v = .slice A l.length c ∧ l.length ≤ c ∧ c ≤ maxLen ∧ (0 < l.length → ∃ b off, A = some ⟨b, off, none⟩ ∧ b < w.heap.size ∧ ∀ j x, l[j]? = some x → w.cell? ⟨b, off + j, none⟩ = some (.int .u8 (x.toNat : Int)))

theorem Bys.below {w w' : World} {v : Value} {l : List UInt8} (h : Bys w v l) (hb : Below w.heap.size w w') : Bys w' v l := by
  obtain ⟨A, c, e, h1, h2, h3⟩ := h
  refine ⟨A, c, e, h1, h2, fun hp => ?_⟩
  obtain ⟨b, off, ea, hlt, hc⟩ := h3 hp
  exact ⟨b, off, ea, Nat.lt_of_lt_of_le hlt hb.size, fun j x hj => (hb.cell (p := ⟨b, off + j, none⟩) hlt).trans (hc j x hj)⟩

/-- A whole block of bytes, from a place on, as a slice. -/
theorem Bys.of_blk {w : World} {g : Nat} {t : TypeId} {cs : List Value} (h : Blk w g t cs) (o c : Nat) (l : List UInt8) (hc : l.length ≤ c) (hm : c ≤ maxLen) (hl : ∀ j x, l[j]? = some x → cs[o + j]? = some (.int .u8 (x.toNat : Int))) : Bys w (.slice (some ⟨g, o, none⟩) l.length c) l :=
  ⟨_, c, rfl, hc, hm, fun _ => ⟨g, o, rfl, h.lt, fun j x hj => (h.cell _).trans (hl j x hj)⟩⟩

theorem Bys.rd {w : World} {B : Nat} {A : Option Addr} {n c : Nat} {l : List UInt8} (h : Bys w (.slice A n c) l) (hB : w.heap.size ≤ B) : Rd w B A l := fun hp => by
  obtain ⟨A', c', e, _, _, h3⟩ := h
  simp only [Value.slice.injEq] at e
  obtain ⟨rfl, _, _⟩ := e
  obtain ⟨b, off, ea, hlt, hc⟩ := h3 hp
  exact ⟨b, off, ea, by omega, hc⟩

theorem byteCells_at (l : List UInt8) (j : Nat) (x : UInt8) (h : l[j]? = some x) : (Lib.byteCells l)[j]? = some (.int .u8 (x.toNat : Int)) := by simp [Lib.byteCells, h]

theorem below_drewN {B : Nat} {a w : World} (h : Below B a w) (n : Nat) : Below B a (w.drewN n) := ⟨h.os, h.tape, h.output, h.size, h.block⟩

section
variable {P : Program} {w : World} {ops : Array Oper} {rest : List Oper} {o : Oper} {a : Act} {Q : Exit → Act → World → Prop}

/-- 'new(T)', T a struct or an array whose zero value has the cells Z. -/
theorem wpList_alloc_row (hgd : o.guard = none) (t : TypeId) (ho : o.op = .alloc t) (Z : List Value) (hz : (P.info? t).bind (·.zero) = some (.agg Z.toArray))
    (h : ∀ w1, Hid (Blk w1 w.heap.size t Z) → Hid (w1 = w.alloc (.cells Z.toArray t)) → wpList P ops Q rest (a.put o.dst (.pointer (some ⟨w.heap.size, 0, none⟩))) w1) : wpList P ops Q (o :: rest) a w := by
  refine wpList_plain hgd fun K hK => ?_
  cases hq : P.info? t with
  | none => simp [hq] at hz
  | some i =>
    have hz' : i.zero = some (.agg Z.toArray) := by simpa [hq] using hz
    unfold Oper.wp
    simp [execOp, ho, Instr.alloc, zeroValue, typeInfo, hq, hz', newVar, newRow, Value.cells, Result.andThen]
    exact hK _ _ (h _ (Blk.new w t Z) rfl)

/-- A struct by value goes into a block of its own. -/
theorem wpList_box_row (hgd : o.guard = none) (t : TypeId) (x : Operand) (ho : o.op = .box t x) (Z : List Value) (hx : a.eval x = .agg Z.toArray)
    (h : ∀ w1, Hid (Blk w1 w.heap.size t Z) → Hid (w1 = w.alloc (.cells Z.toArray t)) → wpList P ops Q rest (a.put o.dst (.pointer (some ⟨w.heap.size, 0, none⟩))) w1) : wpList P ops Q (o :: rest) a w := by
  refine wpList_plain hgd fun K hK => ?_
  unfold Oper.wp
  simp [execOp, ho, hx, Instr.box, newVar, newRow, Value.cells, Result.andThen]
  exact hK _ _ (h _ (Blk.new w t Z) rfl)

/-- A struct is read whole out of a block that is known whole. -/
theorem wpList_load_blk (hgd : o.guard = none) (ty : TypeId) (x : Operand) (ho : o.op = .load ty x) (g : Nat) (t : TypeId) (cs : List Value) (hg : Blk w g t cs) (fs : Array Field) (hu : P.underlying ty = some (.struct fs))
    (hi : (P.info? ty).map (·.size) = some cs.length) (hx : a.eval x = .pointer (some ⟨g, 0, none⟩)) (h : wpList P ops Q rest (a.put o.dst (.agg cs.toArray)) w) : wpList P ops Q (o :: rest) a w :=
  wpList_load_row hgd ty x ho g hx t cs.toArray (0, 0) _ hg hu rfl (by rw [hi, List.size_toArray]) h

/-- An array is read whole out of the middle of a block that is known whole. -/
theorem wpList_load_arr (hgd : o.guard = none) (ty : TypeId) (x : Operand) (ho : o.op = .load ty x) (g off N : Nat) (t : TypeId) (cs : List Value) (hg : Blk w g t cs) (e : TypeId) (hu : P.underlying ty = some (.array N e))
    (hi : (P.info? ty).map (·.size) = some N) (hfit : off + N ≤ cs.length) (hx : a.eval x = .pointer (some ⟨g, off, none⟩)) (h : ∀ v, wpList P ops Q rest (a.put o.dst v) w) : wpList P ops Q (o :: rest) a w := by
  have hr := World.rangeAt_of_block (w := w) (b := g) (C := cs.toArray) (t := t) (fr := (0, 0)) hg off N
  have hl : ((cs.toArray.extract off (off + N)).toList).length = N := by simp; omega
  exact wpList_load_mid hgd ty x ho g off hx _ _ hr hu rfl (by rw [hi, hl]) (h _)

/-- 'make([]byte, n)'. -/
theorem wpList_make_bytes (hgd : o.guard = none) (ty : TypeId) (x y : Operand) (ho : o.op = .makeSlice ty x y) (e : TypeId) (hu : P.underlying ty = some (.slice e)) (hi : (P.info? e).map (fun i => (i.zero, i.size, i.bytes)) = some (some (.int .u8 0), 1, 1))
    (n : Nat) (hn : n ≤ 281474976710656) (hx : a.eval x = .int .i64 (n : Int)) (hy : a.eval y = .int .i64 (n : Int))
    (h : ∀ w1, Hid (Blk w1 w.heap.size e (List.replicate n (Value.int .u8 0))) → Hid (w1 = w.alloc (.cells (List.replicate n (Value.int .u8 0)).toArray e)) → wpList P ops Q rest (a.put o.dst (.slice (some ⟨w.heap.size, 0, none⟩) n n)) w1) : wpList P ops Q (o :: rest) a w := by
  refine wpList_plain hgd fun K hK => ?_
  have hrun := run_make_row' (P := P) ty e (.int .u8 0) 1 hu hi rfl .i64 .i64 n (by omega) (by omega) w
  have hm : madeCells #[Value.int .u8 0] n = (List.replicate n (Value.int .u8 0)).toArray := by
    apply Array.ext
    · simp [madeCells]
    · intro i h1 h2
      simp [madeCells, Nat.mod_one]
  rw [hm] at hrun
  unfold Oper.wp
  simp only [execOp, ho, hx, hy, hrun, Sem.run_bind, Sem.run_pure, Result.andThen_ok]
  exact hK _ _ (h _ (Blk.new w e (List.replicate n (Value.int .u8 0))) rfl)

/-- 'string(b)'. -/
theorem run_to_string (ty e st : TypeId) (hu : P.underlying ty = some (.slice e)) (he : P.underlying e = some (.int .u8)) (hs : P.underlying st = some .string) (v : Value) (l : List UInt8) (hb : Bys w v l) :
    (convert ty st v).run P w = .ok (.string ⟨l.toArray⟩) w := by
  obtain ⟨A, c, rfl, _, _, hc⟩ := hb
  have hstr : strOfNums (l.map fun x => (x.toNat : Int)) = ⟨l.toArray⟩ := by
    unfold strOfNums
    rw [List.map_map]
    congr 2
    conv => rhs; rw [← List.map_id l]
    apply List.map_congr_left
    intro x _
    simp
  by_cases h0 : l.length = 0
  · obtain rfl : l = [] := List.eq_nil_of_length_eq_zero h0
    cases A <;> simp [convert, run_underlying hu, run_underlying hs, run_underlying he, Conv.bytesToString, loadCells, loadCellsFrom] <;> rfl
  · obtain ⟨b, off, rfl, _, hcell⟩ := hc (by omega)
    rw [← hstr]
    exact run_convert_bytes_arg (P := P) w ty e hu he b off l.length c _ (by simp) (fun i hi => by
      have := hcell i l[i] (List.getElem?_eq_getElem hi)
      rw [this]
      simp [hi]) st hs

/-- 'copy(d, s)', s a string that fits into d, d in a row that is known whole. -/
theorem wpList_copy_str (hgd : o.guard = none) (d s : Operand) (dT sT : TypeId) (ho : o.op = .call { callee := .builtin .copy, args := #[d, s], argTypes := #[dT, sT] })
    (elem : TypeId) (hu : P.underlying dT = some (.slice elem)) (hsz : (P.info? elem).map (·.size) = some 1) (g off dLen dCap : Nat) (str : ByteArray)
    (hd : a.eval d = .slice (some ⟨g, off, none⟩) dLen dCap) (hs : a.eval s = .string str) (cur : List Value) (t : TypeId) (hg : Blk w g t cur) (hle : str.size ≤ dLen) (hfit : off + str.size ≤ cur.length)
    (h : ∀ w1, Hid (Blk w1 g t (splice cur off (Lib.byteCells str.data.toList))) → Hid (w.grownBy w1 (some g)) → wpList P ops Q rest (a.put o.dst (goInt str.size)) w1) : wpList P ops Q (o :: rest) a w := by
  refine wpList_plain hgd fun K hK => ?_
  have hrun := Lib.run_copy_row_string (P := P) w dT sT o.type elem g off dLen dCap str cur.toArray t hu hsz hg hle (by simpa using hfit)
  unfold Oper.wp
  simp [execOp, ho, resolve, invoke, builtin, hd, hs, hrun, Result.andThen]
  refine hK _ _ (h _ ?_ ?_)
  · show _ = _
    rw [setRow_heap w g _ _ t _ hg]
    have hbl : (Lib.byteCells str.data.toList).length = str.size := by rw [Lib.byteCells_length]; simp
    simp [splice, hbl]
  · exact ⟨rfl, rfl, rfl, by simp [World.setRow], fun k _ hk => setRow_other w g k _ (fun e => hk (by rw [e]))⟩
end

end Go.Proofs.Ytkiipbpcaakkoaa
