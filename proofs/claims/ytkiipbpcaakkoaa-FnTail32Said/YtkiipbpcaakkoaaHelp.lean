/-
  Small laws and definitions that several walks share. Conditions: as each states.
-/
import Derived.Test.YtkiipbpcaakkoaaApp
import Derived.Test.YtkiipbpcaakkoaaBits5
namespace Go.Proofs.Ytkiipbpcaakkoaa
open Go.RowKit

theorem byteInfo : (Try.prog.info? 5).map (fun i => (i.zero, i.size, i.bytes)) = some (some (.int .u8 0), 1, 1) := by kernel_rfl

/-- The address in a slice's value. -/
def addrOf : Value → Option Addr | .slice A _ _ => A | _ => none

theorem take_splice {α : Type} (L X : List α) (o : Nat) (h : o + X.length ≤ L.length) : (splice L o X).take (o + X.length) = L.take o ++ X := by
  unfold splice
  rw [← List.append_assoc, List.take_append_of_le_length (by simp; omega), List.take_of_length_le (by simp; omega)]

theorem splice_take {α : Type} (L X : List α) (n : Nat) (h : X.length ≤ n) : (splice L 0 X).take n = X ++ (L.take n).drop X.length := by
  unfold splice
  rw [Nat.zero_add, List.take_zero, List.nil_append, List.take_append, List.take_of_length_le h, List.drop_take]

/-- A string that holds some bytes. -/
def StrIs (t : ByteArray) (l : List UInt8) : Prop := t.data.toList = l
theorem StrIs.at {t : ByteArray} {l : List UInt8} (h : StrIs t l) (k : Nat) (hk : k < t.size) : l[k]? = some t[k] := by
  rw [← h, List.getElem?_eq_getElem (by simpa using hk)]
  rfl
theorem StrIs.size {t : ByteArray} {l : List UInt8} (h : StrIs t l) : t.size = l.length := by rw [← h]; simp
theorem strIs_mk (l : List UInt8) : ∃ t : ByteArray, StrIs t l ∧ (⟨l.toArray⟩ : ByteArray) = t := ⟨_, by simp [StrIs], rfl⟩

theorem toList_extract0 (t : ByteArray) (n : Nat) : (t.extract 0 n).toList = t.data.toList.take n := by
  rw [Lib.toList_data, Lib.extract_data]
  simp

theorem textOf6_append (a : List UInt8) (p : Int) : ∀ (l1 l2 : List UInt8), l1.length % 3 = 0 → textOf 6 a p (l1 ++ l2) = textOf 6 a p l1 ++ textOf 6 a p l2
  | [], l2, _ => by rw [textOf6_nil]; rfl
  | x :: y :: z :: t, l2, h => by
    have ht : t.length % 3 = 0 := by simp only [List.length_cons] at h; omega
    rw [List.cons_append, List.cons_append, List.cons_append, textOf6_step, textOf6_step, textOf6_append a p t l2 ht]
    rfl
  | [x, y], l2, h => by simp at h
  | [x], l2, h => by simp at h

theorem strCells_is (l : List UInt8) (t : ByteArray) (h : StrIs t l) : Lib.strCells t = Lib.byteCells l := by
  rw [← h]
  rfl

theorem bys_form {w : World} {v : Value} {l : List UInt8} (h : Bys w v l) : ∃ A c, v = .slice A l.length c := by
  obtain ⟨A, c, e, _⟩ := h
  exact ⟨A, c, e⟩

theorem run_make_bytes {P : Program} (ty e : TypeId) (hu : P.underlying ty = some (.slice e)) (hi : (P.info? e).map (fun i => (i.zero, i.size, i.bytes)) = some (some (.int .u8 0), 1, 1)) (n : Nat) (hn : n ≤ 281474976710656) (w : World) :
    (Instr.makeSlice ty (.int .i64 (n : Int)) (.int .i64 (n : Int))).run P w = .ok (.slice (some ⟨w.heap.size, 0, none⟩) n n) (w.alloc (.cells (madeCells #[Value.int .u8 0] n) e)) :=
  run_make_row' (P := P) ty e (.int .u8 0) 1 hu hi rfl .i64 .i64 n (by omega) (by omega) w

theorem bys_made (w : World) (E : TypeId) (n q : Nat) (hn : n ≤ maxLen) : Bys ((w.alloc (.cells (madeCells #[Value.int .u8 0] n) E)).drewN q) (.slice (some ⟨w.heap.size, 0, none⟩) n n) (List.replicate n 0) := by
  have hm : madeCells #[Value.int .u8 0] n = (List.replicate n (Value.int .u8 0)).toArray := by
    apply Array.ext
    · simp [madeCells]
    · intro i h1 h2
      simp [madeCells, Nat.mod_one]
  rw [hm]
  have := Bys.of_blk (Blk.new w E (List.replicate n (Value.int .u8 0))) 0 n (List.replicate n 0) (by simp) hn (fun j x hj => by
    rw [List.getElem?_replicate] at hj
    split at hj
    · simp only [Option.some.injEq] at hj
      subst hj
      rw [Nat.zero_add, List.getElem?_replicate, if_pos (by assumption)]
      rfl
    · cases hj)
  rw [List.length_replicate] at this
  exact this

/-- What is left of bytes behind a cut, where the cut is in front of the end. -/
theorem Bys.tail {w : World} {b off n c : Nat} {l : List UInt8} (h : Bys w (.slice (some ⟨b, off, none⟩) n c) l) (k : Nat) (hk : k ≤ l.length) : Bys w (.slice (some ⟨b, off + k, none⟩) (n - k) (c - k)) (l.drop k) := by
  obtain ⟨A, c', e, h1, h2, h3⟩ := h
  simp only [Value.slice.injEq] at e
  obtain ⟨rfl, rfl, rfl⟩ := e
  have hl : (l.drop k).length = l.length - k := by simp
  refine ⟨_, _, by rw [hl], by omega, by omega, fun hp => ?_⟩
  obtain ⟨b', off', ea, hlt, hc⟩ := h3 (by omega)
  simp only [Option.some.injEq, Addr.mk.injEq, and_true] at ea
  obtain ⟨rfl, rfl⟩ := ea
  refine ⟨b, off + k, rfl, hlt, fun j x hj => ?_⟩
  rw [Nat.add_assoc]
  exact hc (k + j) x (by rw [← hj, List.getElem?_drop])

theorem Bys.head {w : World} {A : Option Addr} {n c : Nat} {l : List UInt8} (h : Bys w (.slice A n c) l) (k : Nat) (hk : k ≤ l.length) : Bys w (.slice A k c) (l.take k) := by
  obtain ⟨A', c', e, h1, h2, h3⟩ := h
  simp only [Value.slice.injEq] at e
  obtain ⟨rfl, rfl, rfl⟩ := e
  have hl : (l.take k).length = k := by simp; omega
  refine ⟨A, c, by rw [hl], by omega, h2, fun hp => ?_⟩
  obtain ⟨b, off, ea, hlt, hc⟩ := h3 (by omega)
  refine ⟨b, off, ea, hlt, fun j x hj => hc j x ?_⟩
  rw [List.getElem?_take] at hj
  split at hj
  · exact hj
  · cases hj

theorem Bys.none_ {w : World} {A : Option Addr} {c : Nat} (hc : c ≤ maxLen) : Bys w (.slice A 0 c) [] := ⟨A, c, rfl, Nat.zero_le _, hc, fun h => absurd h (by simp)⟩

theorem textOf5_append (al : List UInt8) (p : Int) : ∀ (l1 l2 : List UInt8), l1.length % 5 = 0 → textOf 5 al p (l1 ++ l2) = textOf 5 al p l1 ++ textOf 5 al p l2
  | [], l2, _ => by rw [textOf5_nil]; rfl
  | a :: b :: c :: d :: e :: t, l2, h => by
    have ht : t.length % 5 = 0 := by simp only [List.length_cons] at h; omega
    rw [List.cons_append, List.cons_append, List.cons_append, List.cons_append, List.cons_append, textOf5_step, textOf5_step, textOf5_append al p t l2 ht]
    rfl
  | [_, _, _, _], l2, h => by simp at h
  | [_, _, _], l2, h => by simp at h
  | [_, _], l2, h => by simp at h
  | [_], l2, h => by simp at h

theorem quiet_left' {P : Program} {f : FuncId} {args : Array Value} {w : World} {n : Nat} {v : Value}
    (h : Calls P f args (w.drewN n) fun e w' => e = .returned v ∧ w.drewN n = w') : Calls P f args (w.drewN n) fun e w'' => e = .returned v ∧ ∃ m, w'' = w.drewN m :=
  h.mono fun _ _ ⟨he, hm⟩ => ⟨he, n, hm.symm⟩
theorem quiet_add_left' {P : Program} {f : FuncId} {args : Array Value} {w : World} {a n : Nat} {v : Value}
    (h : Calls P f args (w.drewN (a + n)) fun e w' => e = .returned v ∧ w.drewN (a + n) = w') :
    Calls P f args (w.drewN (a + n)) fun e w'' => e = .returned v ∧ ∃ m, w'' = w.drewN (a + m) :=
  h.mono fun _ _ ⟨he, hm⟩ => ⟨he, n, hm.symm⟩

end Go.Proofs.Ytkiipbpcaakkoaa
