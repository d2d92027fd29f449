/-
  Small facts for the walks of the laws on decoding: new slices of one byte, a byte of a '[]byte(s)' changed, a foreign byte in a text. Conditions: as each states.
-/
import Derived.Test.YtkiipbpcaakkoaaDecV
import Derived.Test.YtkiipbpcaakkoaaConv
namespace Go.Proofs.Ytkiipbpcaakkoaa
open Go.RowKit

theorem byte_of {bI : Int} (h : (Lit.int .u8 bI).wf = true) : ∃ b : UInt8, bI = (b.toNat : Int) := by
  have h1 : 0 ≤ bI ∧ bI ≤ 255 := by
    simp [Lit.wf] at h
    exact h
  refine ⟨UInt8.ofNat bI.toNat, ?_⟩
  rw [UInt8.toNat_ofNat_of_lt' (by show _ < 256; omega)]
  omega

theorem bys_byte0 (w : World) (E : TypeId) (b : UInt8) : Bys (w.alloc (.cells #[.int .u8 (b.toNat : Int)] E)) (.slice (some ⟨w.heap.size, 0, none⟩) 1 1) [b] := by
  have h : Blk (w.alloc (.cells #[.int .u8 (b.toNat : Int)] E)) w.heap.size E [.int .u8 (b.toNat : Int)] := Blk.new w E [.int .u8 (b.toNat : Int)]
  refine Bys.of_blk h 0 1 [b] (Nat.le_refl _) (by unfold maxLen; omega) (fun j x hj => ?_)
  cases j with
  | zero => simp only [List.getElem?_cons_zero, Option.some.injEq] at hj; subst hj; rfl
  | succ j => simp at hj
theorem bys_byte (w : World) (E : TypeId) (b : UInt8) : Bys ((w.alloc (.cells #[.int .u8 (b.toNat : Int)] E)).drew) (.slice (some ⟨w.heap.size, 0, none⟩) 1 1) [b] := bys_byte0 w E b
theorem bys_one (w : World) (E : TypeId) (p : Int) (h0 : 0 ≤ p) (h1 : p ≤ 255) : Bys (w.alloc (.cells #[.int .u8 p] E)) (.slice (some ⟨w.heap.size, 0, none⟩) 1 1) [padB p] := by
  have := bys_byte0 w E (padB p)
  rw [padB_toNat p h0 h1] at this
  exact this

theorem conv_set {w1 : World} {g c : Nat} {E : TypeId} {s : ByteArray} (h : ∃ cs, Blm w1 g E cs ∧ cs.length = c ∧ cs.take s.size = Lib.byteCells s.data.toList) (k : Nat) (hk : k < s.size) (hc : s.size ≤ c) (hm : c ≤ maxLen) (b : UInt8) :
    (∃ x : UInt8, s.data.toList[k]? = some x ∧ w1.cell? ⟨g, k, none⟩ = some (.int .u8 (x.toNat : Int))) ∧ w1.frozen? ⟨g, k, none⟩ = false ∧ Bys (w1.setCell ⟨g, k, none⟩ (.int .u8 (b.toNat : Int))) (.slice (some ⟨g, 0, none⟩) s.size c) (s.data.toList.set k b) := by
  obtain ⟨cs, h1, h2, h3⟩ := h
  have hL : s.data.toList.length = s.size := by simp
  have hold : ∀ (j : Nat) (x : UInt8), s.data.toList[j]? = some x → cs[j]? = some (Value.int .u8 (x.toNat : Int)) := fun j x hj => by
    have hlt : j < s.size := by rw [← hL]; exact (List.getElem?_eq_some_iff.1 hj).1
    have h5 := byteCells_at _ j x hj
    rw [← h3, List.getElem?_take, if_pos hlt] at h5
    exact h5
  refine ⟨⟨s.data.toList[k], List.getElem?_eq_getElem (by rw [hL]; exact hk), ?_⟩, h1.frozen k (by omega), ?_⟩
  · rw [h1.cell]
    exact hold k _ (List.getElem?_eq_getElem (by rw [hL]; exact hk))
  · have := Bys.of_blm (h1.set_ k (.int .u8 (b.toNat : Int))) 0 c (s.data.toList.set k b) (by rw [List.length_set, hL]; exact hc) hm (fun j x hj => by
      rw [Nat.zero_add]
      by_cases e : j = k
      · subst e
        rw [List.getElem?_set_self (by rw [hL]; exact hk)] at hj
        simp only [Option.some.injEq] at hj
        subst hj
        rw [List.getElem?_set_self (by omega)]
      · rw [List.getElem?_set_ne (Ne.symm e)] at hj ⊢
        exact hold j x hj)
    rw [List.length_set, hL] at this
    exact this

theorem begins_take (l : List UInt8) (n : Nat) : (l.take (l.take n).length == l.take n) = true := by
  rw [beq_iff_eq, List.length_take]
  exact (List.take_eq_take_min ..).symm

/-- The numbers of the letters of a text before a place at which a byte has been changed. -/
theorem text6_nums {a : List UInt8} {p : Int} (hv : validP 6 a p) (l : List UInt8) (k : Nat) (b : UInt8) (hk : k < charsN 6 l.length) (m : Nat) (hm : m ≤ k) : (((textOf 6 a p l).set k b).take m).map (numL a) = (sixes l).take m := by
  have htl := textOf_length6 a p l
  have hcs := (lenN6_facts p l.length).1
  apply List.ext_getElem?
  intro j
  rcases Nat.lt_or_ge j m with hj | hj
  · have hj2 : j < (textOf 6 a p l).length := by rw [htl]; omega
    obtain ⟨u, hu1, hu2, e, _⟩ := text6_letter hv l j (by omega) _ (List.getElem?_eq_getElem hj2)
    have hu3 : (sixes l)[j]? = some u := hu1
    rw [List.getElem?_map, List.getElem?_take, if_pos hj, List.getElem?_set_ne (by omega), List.getElem?_eq_getElem hj2, Option.map_some, e, (isL_letter6 hv u hu2).2, List.getElem?_take, if_pos hj, hu3]
  · rw [List.getElem?_eq_none (by simp; omega), List.getElem?_eq_none (by simp; omega)]

/-- A foreign byte in the place of a letter. -/
theorem text6_offset {a : List UInt8} {p : Int} (hv : validP 6 a p) (st : Bool) (l : List UInt8) (k : Nat) (b : UInt8) (hk : k < charsN 6 l.length) (h1 : isL a b = false) (h2 : (b.toNat : Int) ≠ p) (h3 : isNL b = false) :
    decOf a p st ((textOf 6 a p l).set k b) = (l.take (3 * (k / 4)), some (k : Int)) := by
  have htl := textOf_length6 a p l
  have hcs := (lenN6_facts p l.length).1
  have h := dec_foreign a p st ((textOf 6 a p l).set k b) b k (List.getElem?_set_self (by rw [htl]; omega)) h1 h3 h2 (fun j c hj hc => by
    rw [List.getElem?_set_ne (by omega)] at hc
    obtain ⟨u, _, hu2, e, _⟩ := text6_letter hv l j (by omega) _ hc
    rw [e]
    exact (isL_letter6 hv u hu2).1) (k / 4) 0 (by omega) (by omega)
  unfold decOf
  rw [Nat.mul_zero] at h
  rw [h, List.drop_zero, Nat.sub_zero, text6_nums hv l k b hk _ (by omega), unsix_take _ _ (by rw [sixes_length]; omega), unsix_sixes]

end Go.Proofs.Ytkiipbpcaakkoaa
