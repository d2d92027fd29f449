/-
  Plain facts on the text of some bytes: its letters are found at their places, the padding is none of them; lengths. No program in sight. Conditions: the alphabet and the padding are valid.
-/
import Derived.Test.YtkiipbpcaakkoaaSpecT
namespace Go.Proofs.Ytkiipbpcaakkoaa

theorem idx_letter6 {a : List UInt8} {p : Int} (hv : validP 6 a p) (v : Nat) (h : v < 64) : idx a ((letter a v).toNat : Int) = (v : Int) := by
  have hl : v < a.length := by rw [hv.1]; exact h
  rw [letter_at a v hl]
  exact (hv.2.2.2.2.2 v hl).2.2.2.2

theorem codes6_lt (l : List UInt8) (v : Nat) (h : v ∈ codes 6 l) : v < 64 := by
  unfold codes at h
  first | exact sixes_lt l v h | exact fives_lt l v h

theorem text6_letter {a : List UInt8} {p : Int} (hv : validP 6 a p) (l : List UInt8) (j : Nat) (hj : j < charsN 6 l.length) (x : UInt8) (hx : (textOf 6 a p l)[j]? = some x) : ∃ v, (codes 6 l)[j]? = some v ∧ v < 64 ∧ x = letter a v ∧ idx a (x.toNat : Int) = (v : Int) := by
  unfold textOf at hx
  rw [List.getElem?_append_left (by rw [lettersOf_length6]; exact hj)] at hx
  unfold lettersOf at hx
  rw [List.getElem?_map] at hx
  cases hc : (codes 6 l)[j]? with
  | none => rw [hc] at hx; cases hx
  | some v =>
    rw [hc] at hx
    have hlt := codes6_lt l v (List.mem_of_getElem? hc)
    simp only [Option.map_some, Option.some.injEq] at hx
    refine ⟨v, rfl, hlt, hx.symm, ?_⟩
    rw [← hx]
    exact idx_letter6 hv v hlt

theorem text6_pad (a : List UInt8) (p : Int) (l : List UInt8) (j : Nat) (h1 : charsN 6 l.length ≤ j) (h2 : j < lenN 6 p l.length) : (textOf 6 a p l)[j]? = some (padB p) ∧ 0 ≤ p := by
  have hp : 0 ≤ p := by
    rcases Int.lt_or_le p 0 with h | h
    · exfalso
      have := (padN6_le p l.length).2 h
      unfold lenN at h2
      omega
    · exact h
  refine ⟨?_, hp⟩
  unfold textOf
  rw [List.getElem?_append_right (by rw [lettersOf_length6]; exact h1), lettersOf_length6, List.getElem?_replicate, if_pos (by unfold lenN at h2; omega)]

theorem pad_not6 {a : List UInt8} {p : Int} (hv : validP 6 a p) : idx a p = -1 := by
  apply idx_miss
  intro j hj e
  exact (hv.2.2.2.2.2 j hj).2.2.2.1 e

theorem lettersIn_text6 {a : List UInt8} {p : Int} (hv : validP 6 a p) (l : List UInt8) : lettersIn a (textOf 6 a p l) = charsN 6 l.length := by
  apply lettersIn_stop
  · rw [textOf_length6]; unfold lenN; omega
  · intro j hj hjk
    obtain ⟨v, _, _, _, h4⟩ := text6_letter hv l j hjk _ (List.getElem?_eq_getElem hj)
    omega
  · intro h
    rw [textOf_length6] at h
    obtain ⟨h1, h2⟩ := text6_pad a p l _ (Nat.le_refl _) h
    rw [List.getElem?_eq_getElem (by rw [textOf_length6]; exact h)] at h1
    simp only [Option.some.injEq] at h1
    rw [h1, padB_toNat p h2 hv.2.2.1, pad_not6 hv]
    omega

theorem lenN6_facts (p : Int) (n : Nat) : charsN 6 n ≤ lenN 6 p n ∧ lenN 6 p n < charsN 6 n + 4 ∧ (p < 0 → lenN 6 p n = charsN 6 n) ∧ (0 ≤ p → lenN 6 p n % 4 = 0) ∧ lenN 6 p n ≤ 2 * n + 8 := by
  unfold lenN padN
  rw [show grpN 6 = 4 from rfl]
  have := charsN6_le n
  by_cases h : p < 0
  · rw [if_pos h]; omega
  · rw [if_neg h]; omega

theorem idx_letter5 {a : List UInt8} {p : Int} (hv : validP 5 a p) (v : Nat) (h : v < 32) : idx a ((letter a v).toNat : Int) = (v : Int) := by
  have hl : v < a.length := by rw [hv.1]; exact h
  rw [letter_at a v hl]
  exact (hv.2.2.2.2.2 v hl).2.2.2.2

theorem codes5_lt (l : List UInt8) (v : Nat) (h : v ∈ codes 5 l) : v < 32 := by
  unfold codes at h
  first | exact sixes_lt l v h | exact fives_lt l v h

theorem text5_letter {a : List UInt8} {p : Int} (hv : validP 5 a p) (l : List UInt8) (j : Nat) (hj : j < charsN 5 l.length) (x : UInt8) (hx : (textOf 5 a p l)[j]? = some x) : ∃ v, (codes 5 l)[j]? = some v ∧ v < 32 ∧ x = letter a v ∧ idx a (x.toNat : Int) = (v : Int) := by
  unfold textOf at hx
  rw [List.getElem?_append_left (by rw [lettersOf_length5]; exact hj)] at hx
  unfold lettersOf at hx
  rw [List.getElem?_map] at hx
  cases hc : (codes 5 l)[j]? with
  | none => rw [hc] at hx; cases hx
  | some v =>
    rw [hc] at hx
    have hlt := codes5_lt l v (List.mem_of_getElem? hc)
    simp only [Option.map_some, Option.some.injEq] at hx
    refine ⟨v, rfl, hlt, hx.symm, ?_⟩
    rw [← hx]
    exact idx_letter5 hv v hlt

theorem text5_pad (a : List UInt8) (p : Int) (l : List UInt8) (j : Nat) (h1 : charsN 5 l.length ≤ j) (h2 : j < lenN 5 p l.length) : (textOf 5 a p l)[j]? = some (padB p) ∧ 0 ≤ p := by
  have hp : 0 ≤ p := by
    rcases Int.lt_or_le p 0 with h | h
    · exfalso
      have := (padN5_le p l.length).2 h
      unfold lenN at h2
      omega
    · exact h
  refine ⟨?_, hp⟩
  unfold textOf
  rw [List.getElem?_append_right (by rw [lettersOf_length5]; exact h1), lettersOf_length5, List.getElem?_replicate, if_pos (by unfold lenN at h2; omega)]

theorem pad_not5 {a : List UInt8} {p : Int} (hv : validP 5 a p) : idx a p = -1 := by
  apply idx_miss
  intro j hj e
  exact (hv.2.2.2.2.2 j hj).2.2.2.1 e

theorem lettersIn_text5 {a : List UInt8} {p : Int} (hv : validP 5 a p) (l : List UInt8) : lettersIn a (textOf 5 a p l) = charsN 5 l.length := by
  apply lettersIn_stop
  · rw [textOf_length5]; unfold lenN; omega
  · intro j hj hjk
    obtain ⟨v, _, _, _, h4⟩ := text5_letter hv l j hjk _ (List.getElem?_eq_getElem hj)
    omega
  · intro h
    rw [textOf_length5] at h
    obtain ⟨h1, h2⟩ := text5_pad a p l _ (Nat.le_refl _) h
    rw [List.getElem?_eq_getElem (by rw [textOf_length5]; exact h)] at h1
    simp only [Option.some.injEq] at h1
    rw [h1, padB_toNat p h2 hv.2.2.1, pad_not5 hv]
    omega

theorem lenN5_facts (p : Int) (n : Nat) : charsN 5 n ≤ lenN 5 p n ∧ lenN 5 p n < charsN 5 n + 8 ∧ (p < 0 → lenN 5 p n = charsN 5 n) ∧ (0 ≤ p → lenN 5 p n % 8 = 0) ∧ lenN 5 p n ≤ 2 * n + 8 := by
  unfold lenN padN
  rw [show grpN 5 = 8 from rfl]
  have := charsN5_le n
  by_cases h : p < 0
  · rw [if_pos h]; omega
  · rw [if_neg h]; omega

end Go.Proofs.Ytkiipbpcaakkoaa
