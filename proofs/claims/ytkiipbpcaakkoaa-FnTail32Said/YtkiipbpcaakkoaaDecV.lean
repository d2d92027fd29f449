/-
  Plain facts for the laws on decoding: texts with new lines, with a foreign byte, cut, joined, with unused bits. No program in sight. Conditions: the alphabet and the padding are valid.
-/
import Derived.Test.YtkiipbpcaakkoaaDecU
import Derived.Test.YtkiipbpcaakkoaaVals
namespace Go.Proofs.Ytkiipbpcaakkoaa

theorem fine_chars {bits : Nat} {a : List UInt8} {p : Int} {t : List UInt8} (h : fineB bits a p t = true) (c : UInt8) (hc : c ∈ t) : isL a c = true ∨ (0 ≤ p ∧ (c.toNat : Int) = p) := by
  obtain ⟨f1, _, _⟩ := fineB_parts h
  obtain ⟨j, hj, rfl⟩ := List.getElem_of_mem hc
  rcases Nat.lt_or_ge j (lettersIn a t) with hl | hl
  · exact Or.inl (isL_of_lt a t j _ hl (List.getElem?_eq_getElem hj))
  · refine Or.inr (f1 _ ?_)
    have e : t[j]? = (t.drop (lettersIn a t))[j - lettersIn a t]? := by rw [List.getElem?_drop, show lettersIn a t + (j - lettersIn a t) = j by omega]
    rw [List.getElem?_eq_getElem hj] at e
    exact List.mem_of_getElem? e.symm

/-- A text with a foreign byte is not well formed. -/
theorem fine_foreign {bits : Nat} {a : List UInt8} {p : Int} {t : List UInt8} (c : UInt8) (hc : c ∈ t) (h1 : isL a c = false) (h2 : (c.toNat : Int) ≠ p) : fineB bits a p t = false := by
  rw [Bool.eq_false_iff]
  intro hf
  rcases fine_chars hf c hc with h | h
  · rw [h1] at h; cases h
  · exact h2 h.2

theorem text6_noNL {a : List UInt8} {p : Int} (hv : validP 6 a p) (l : List UInt8) (c : UInt8) (hc : c ∈ textOf 6 a p l) : isNL c = false := by
  obtain ⟨j, hj, rfl⟩ := List.getElem_of_mem hc
  rcases Nat.lt_or_ge j (charsN 6 l.length) with h | h
  · obtain ⟨v, _, hlt, e, _⟩ := text6_letter hv l j h _ (List.getElem?_eq_getElem hj)
    have := (isL_letter6 hv v hlt).1
    rw [← e] at this
    cases hn : isNL (textOf 6 a p l)[j] with
    | false => rfl
    | true => rw [nl_not hv _ hn] at this; cases this
  · rw [textOf_length6] at hj
    obtain ⟨h1, h2⟩ := text6_pad a p l j h hj
    rw [List.getElem?_eq_getElem (by rw [textOf_length6]; exact hj)] at h1
    simp only [Option.some.injEq] at h1
    rw [h1]
    have := padB_toNat p h2 hv.2.2.1
    have h3 := hv.2.2.2.1
    have h4 := hv.2.2.2.2.1
    unfold isNL
    simp
    omega

theorem text6_stripped {a : List UInt8} {p : Int} (hv : validP 6 a p) (l : List UInt8) (t : List UInt8) (h : ∀ c ∈ t, c ∈ textOf 6 a p l ∨ isNL c = false) : strip t = t := by
  unfold strip
  rw [List.filter_eq_self]
  intro c hc
  rw [Bool.not_eq_true']
  rcases h c hc with h1 | h1
  · exact text6_noNL hv l c h1
  · exact h1

theorem text6_lines {a : List UInt8} {p : Int} (hv : validP 6 a p) (l : List UInt8) (k : Nat) (n : List UInt8) (hn : strip n = []) : strip ((textOf 6 a p l).take k ++ n ++ (textOf 6 a p l).drop k) = textOf 6 a p l := by
  rw [strip_append, strip_append, hn, List.append_nil, ← strip_append, List.take_append_drop]
  exact text6_stripped hv l _ (fun c hc => Or.inl hc)

theorem text6_short {a : List UInt8} {p : Int} (hv : validP 6 a p) (hp : 0 ≤ p) (l : List UInt8) (hl : 0 < l.length) : fineB 6 a p (strip ((textOf 6 a p l).take (lenN 6 p l.length - 1))) = false := by
  rw [text6_stripped hv l _ (fun c hc => Or.inl (List.mem_of_mem_take hc))]
  apply fineB_false_len
  rw [List.length_take, textOf_length6]
  have h1 := (lenN6_facts p l.length).2.2.2.1 hp
  have h2 := (lenN6_facts p (lettersIn a ((textOf 6 a p l).take (lenN 6 p l.length - 1)) * 6 / 8)).2.2.2.1 hp
  have h3 := (lenN6_facts p l.length).1
  have h4 : 0 < charsN 6 l.length := by unfold charsN; omega
  omega

theorem text6_pads {a : List UInt8} {p : Int} (hv : validP 6 a p) (hp : 0 ≤ p) (l : List UInt8) : strip (textOf 6 a p l ++ [padB p]) = textOf 6 a p l ++ [padB p] ∧ fineB 6 a p (strip (textOf 6 a p l ++ [padB p])) = false := by
  have hs : strip (textOf 6 a p l ++ [padB p]) = textOf 6 a p l ++ [padB p] := by
    refine text6_stripped hv l _ (fun c hc => ?_)
    rcases List.mem_append.1 hc with h | h
    · exact Or.inl h
    · refine Or.inr ?_
      simp only [List.mem_singleton] at h
      subst h
      have := padB_toNat p hp hv.2.2.1
      have h3 := hv.2.2.2.1
      have h4 := hv.2.2.2.2.1
      unfold isNL
      simp
      omega
  refine ⟨hs, ?_⟩
  rw [hs]
  apply fineB_false_len
  rw [List.length_append, textOf_length6, List.length_singleton]
  have h1 := (lenN6_facts p l.length).2.2.2.1 hp
  have h2 := (lenN6_facts p (lettersIn a (textOf 6 a p l ++ [padB p]) * 6 / 8)).2.2.2.1 hp
  omega

/-- A foreign byte at any place of a text. -/
theorem text6_foreign {a : List UInt8} {p : Int} (hv : validP 6 a p) (l : List UInt8) (k : Nat) (b : UInt8) (h1 : isL a b = false) (h2 : (b.toNat : Int) ≠ p) (h3 : isNL b = false) :
    strip ((textOf 6 a p l).take k ++ [b] ++ (textOf 6 a p l).drop k) = (textOf 6 a p l).take k ++ [b] ++ (textOf 6 a p l).drop k ∧ fineB 6 a p (strip ((textOf 6 a p l).take k ++ [b] ++ (textOf 6 a p l).drop k)) = false := by
  have hs : strip ((textOf 6 a p l).take k ++ [b] ++ (textOf 6 a p l).drop k) = (textOf 6 a p l).take k ++ [b] ++ (textOf 6 a p l).drop k := by
    refine text6_stripped hv l _ (fun c hc => ?_)
    rcases List.mem_append.1 hc with h | h
    · rcases List.mem_append.1 h with h | h
      · exact Or.inl (List.mem_of_mem_take h)
      · simp only [List.mem_singleton] at h
        subst h
        exact Or.inr h3
    · exact Or.inl (List.mem_of_mem_drop h)
  refine ⟨hs, ?_⟩
  rw [hs]
  exact fine_foreign b (by simp) h1 h2

/-- Two texts of which the first one has padding. -/
theorem text6_joined {a : List UInt8} {p : Int} (hv : validP 6 a p) (hp : 0 ≤ p) (x y : List UInt8) (hx : charsN 6 x.length < lenN 6 p x.length) (hy : 0 < y.length) : strip (textOf 6 a p x ++ textOf 6 a p y) = textOf 6 a p x ++ textOf 6 a p y ∧ fineB 6 a p (strip (textOf 6 a p x ++ textOf 6 a p y)) = false := by
  have hs : strip (textOf 6 a p x ++ textOf 6 a p y) = textOf 6 a p x ++ textOf 6 a p y := by
    rw [strip_append, text6_stripped hv x _ (fun c hc => Or.inl hc), text6_stripped hv y _ (fun c hc => Or.inl hc)]
  refine ⟨hs, ?_⟩
  rw [hs]
  have hc : 0 < charsN 6 y.length := by unfold charsN; omega
  have hlt : 0 < (textOf 6 a p y).length := by rw [textOf_length6]; have := (lenN6_facts p y.length).1; omega
  obtain ⟨v, _, hv64, e, _⟩ := text6_letter hv y 0 hc _ (List.getElem?_eq_getElem hlt)
  have hL := (isL_letter6 hv v hv64).1
  rw [← e] at hL
  have hli : lettersIn a (textOf 6 a p x ++ textOf 6 a p y) = charsN 6 x.length := by
    apply lettersIn_stop
    · rw [List.length_append, textOf_length6]; omega
    · intro j hj hk
      have hj2 : j < (textOf 6 a p x).length := by rw [textOf_length6]; omega
      rw [List.getElem_append_left hj2]
      obtain ⟨u, _, hu, e2, e3⟩ := text6_letter hv x j hk _ (List.getElem?_eq_getElem hj2)
      rw [e3]
      omega
    · intro h
      have hj2 : charsN 6 x.length < (textOf 6 a p x).length := by rw [textOf_length6]; omega
      rw [List.getElem_append_left hj2]
      have h1 := (text6_pad a p x _ (Nat.le_refl _) hx).1
      rw [List.getElem?_eq_getElem hj2] at h1
      simp only [Option.some.injEq] at h1
      rw [h1, padB_toNat p hp hv.2.2.1, pad_not6 hv]
      omega
  refine fineB_false_rest (textOf 6 a p y)[0] ?_ (fun h => pad_not_letter hv _ hL h.2)
  rw [hli]
  have e4 : (textOf 6 a p x ++ textOf 6 a p y).drop (charsN 6 x.length) = (textOf 6 a p x).drop (charsN 6 x.length) ++ textOf 6 a p y := by
    rw [List.drop_append_of_le_length (by rw [textOf_length6]; omega)]
  rw [e4]
  exact List.mem_append_right _ (List.getElem_mem _)

/-- The text of x and a new line behind it. -/
theorem text6_line {a : List UInt8} {p : Int} (hv : validP 6 a p) (x n : List UInt8) (hn : strip n = []) : strip (textOf 6 a p x ++ n) = textOf 6 a p x := by
  rw [strip_append, hn, List.append_nil]
  exact text6_stripped hv x _ (fun c hc => Or.inl hc)

theorem text5_noNL {a : List UInt8} {p : Int} (hv : validP 5 a p) (l : List UInt8) (c : UInt8) (hc : c ∈ textOf 5 a p l) : isNL c = false := by
  obtain ⟨j, hj, rfl⟩ := List.getElem_of_mem hc
  rcases Nat.lt_or_ge j (charsN 5 l.length) with h | h
  · obtain ⟨v, _, hlt, e, _⟩ := text5_letter hv l j h _ (List.getElem?_eq_getElem hj)
    have := (isL_letter5 hv v hlt).1
    rw [← e] at this
    cases hn : isNL (textOf 5 a p l)[j] with
    | false => rfl
    | true => rw [nl_not hv _ hn] at this; cases this
  · rw [textOf_length5] at hj
    obtain ⟨h1, h2⟩ := text5_pad a p l j h hj
    rw [List.getElem?_eq_getElem (by rw [textOf_length5]; exact hj)] at h1
    simp only [Option.some.injEq] at h1
    rw [h1]
    have := padB_toNat p h2 hv.2.2.1
    have h3 := hv.2.2.2.1
    have h4 := hv.2.2.2.2.1
    unfold isNL
    simp
    omega

theorem text5_stripped {a : List UInt8} {p : Int} (hv : validP 5 a p) (l : List UInt8) (t : List UInt8) (h : ∀ c ∈ t, c ∈ textOf 5 a p l ∨ isNL c = false) : strip t = t := by
  unfold strip
  rw [List.filter_eq_self]
  intro c hc
  rw [Bool.not_eq_true']
  rcases h c hc with h1 | h1
  · exact text5_noNL hv l c h1
  · exact h1

theorem text5_lines {a : List UInt8} {p : Int} (hv : validP 5 a p) (l : List UInt8) (k : Nat) (n : List UInt8) (hn : strip n = []) : strip ((textOf 5 a p l).take k ++ n ++ (textOf 5 a p l).drop k) = textOf 5 a p l := by
  rw [strip_append, strip_append, hn, List.append_nil, ← strip_append, List.take_append_drop]
  exact text5_stripped hv l _ (fun c hc => Or.inl hc)

theorem text5_short {a : List UInt8} {p : Int} (hv : validP 5 a p) (hp : 0 ≤ p) (l : List UInt8) (hl : 0 < l.length) : fineB 5 a p (strip ((textOf 5 a p l).take (lenN 5 p l.length - 1))) = false := by
  rw [text5_stripped hv l _ (fun c hc => Or.inl (List.mem_of_mem_take hc))]
  apply fineB_false_len
  rw [List.length_take, textOf_length5]
  have h1 := (lenN5_facts p l.length).2.2.2.1 hp
  have h2 := (lenN5_facts p (lettersIn a ((textOf 5 a p l).take (lenN 5 p l.length - 1)) * 5 / 8)).2.2.2.1 hp
  have h3 := (lenN5_facts p l.length).1
  have h4 : 0 < charsN 5 l.length := by unfold charsN; omega
  omega

theorem text5_pads {a : List UInt8} {p : Int} (hv : validP 5 a p) (hp : 0 ≤ p) (l : List UInt8) : strip (textOf 5 a p l ++ [padB p]) = textOf 5 a p l ++ [padB p] ∧ fineB 5 a p (strip (textOf 5 a p l ++ [padB p])) = false := by
  have hs : strip (textOf 5 a p l ++ [padB p]) = textOf 5 a p l ++ [padB p] := by
    refine text5_stripped hv l _ (fun c hc => ?_)
    rcases List.mem_append.1 hc with h | h
    · exact Or.inl h
    · refine Or.inr ?_
      simp only [List.mem_singleton] at h
      subst h
      have := padB_toNat p hp hv.2.2.1
      have h3 := hv.2.2.2.1
      have h4 := hv.2.2.2.2.1
      unfold isNL
      simp
      omega
  refine ⟨hs, ?_⟩
  rw [hs]
  apply fineB_false_len
  rw [List.length_append, textOf_length5, List.length_singleton]
  have h1 := (lenN5_facts p l.length).2.2.2.1 hp
  have h2 := (lenN5_facts p (lettersIn a (textOf 5 a p l ++ [padB p]) * 5 / 8)).2.2.2.1 hp
  omega

/-- A foreign byte at any place of a text. -/
theorem text5_foreign {a : List UInt8} {p : Int} (hv : validP 5 a p) (l : List UInt8) (k : Nat) (b : UInt8) (h1 : isL a b = false) (h2 : (b.toNat : Int) ≠ p) (h3 : isNL b = false) :
    strip ((textOf 5 a p l).take k ++ [b] ++ (textOf 5 a p l).drop k) = (textOf 5 a p l).take k ++ [b] ++ (textOf 5 a p l).drop k ∧ fineB 5 a p (strip ((textOf 5 a p l).take k ++ [b] ++ (textOf 5 a p l).drop k)) = false := by
  have hs : strip ((textOf 5 a p l).take k ++ [b] ++ (textOf 5 a p l).drop k) = (textOf 5 a p l).take k ++ [b] ++ (textOf 5 a p l).drop k := by
    refine text5_stripped hv l _ (fun c hc => ?_)
    rcases List.mem_append.1 hc with h | h
    · rcases List.mem_append.1 h with h | h
      · exact Or.inl (List.mem_of_mem_take h)
      · simp only [List.mem_singleton] at h
        subst h
        exact Or.inr h3
    · exact Or.inl (List.mem_of_mem_drop h)
  refine ⟨hs, ?_⟩
  rw [hs]
  exact fine_foreign b (by simp) h1 h2

/-- Two texts of which the first one has padding. -/
theorem text5_joined {a : List UInt8} {p : Int} (hv : validP 5 a p) (hp : 0 ≤ p) (x y : List UInt8) (hx : charsN 5 x.length < lenN 5 p x.length) (hy : 0 < y.length) : strip (textOf 5 a p x ++ textOf 5 a p y) = textOf 5 a p x ++ textOf 5 a p y ∧ fineB 5 a p (strip (textOf 5 a p x ++ textOf 5 a p y)) = false := by
  have hs : strip (textOf 5 a p x ++ textOf 5 a p y) = textOf 5 a p x ++ textOf 5 a p y := by
    rw [strip_append, text5_stripped hv x _ (fun c hc => Or.inl hc), text5_stripped hv y _ (fun c hc => Or.inl hc)]
  refine ⟨hs, ?_⟩
  rw [hs]
  have hc : 0 < charsN 5 y.length := by unfold charsN; omega
  have hlt : 0 < (textOf 5 a p y).length := by rw [textOf_length5]; have := (lenN5_facts p y.length).1; omega
  obtain ⟨v, _, hv64, e, _⟩ := text5_letter hv y 0 hc _ (List.getElem?_eq_getElem hlt)
  have hL := (isL_letter5 hv v hv64).1
  rw [← e] at hL
  have hli : lettersIn a (textOf 5 a p x ++ textOf 5 a p y) = charsN 5 x.length := by
    apply lettersIn_stop
    · rw [List.length_append, textOf_length5]; omega
    · intro j hj hk
      have hj2 : j < (textOf 5 a p x).length := by rw [textOf_length5]; omega
      rw [List.getElem_append_left hj2]
      obtain ⟨u, _, hu, e2, e3⟩ := text5_letter hv x j hk _ (List.getElem?_eq_getElem hj2)
      rw [e3]
      omega
    · intro h
      have hj2 : charsN 5 x.length < (textOf 5 a p x).length := by rw [textOf_length5]; omega
      rw [List.getElem_append_left hj2]
      have h1 := (text5_pad a p x _ (Nat.le_refl _) hx).1
      rw [List.getElem?_eq_getElem hj2] at h1
      simp only [Option.some.injEq] at h1
      rw [h1, padB_toNat p hp hv.2.2.1, pad_not5 hv]
      omega
  refine fineB_false_rest (textOf 5 a p y)[0] ?_ (fun h => pad_not_letter hv _ hL h.2)
  rw [hli]
  have e4 : (textOf 5 a p x ++ textOf 5 a p y).drop (charsN 5 x.length) = (textOf 5 a p x).drop (charsN 5 x.length) ++ textOf 5 a p y := by
    rw [List.drop_append_of_le_length (by rw [textOf_length5]; omega)]
  rw [e4]
  exact List.mem_append_right _ (List.getElem_mem _)

/-- The text of x and a new line behind it. -/
theorem text5_line {a : List UInt8} {p : Int} (hv : validP 5 a p) (x n : List UInt8) (hn : strip n = []) : strip (textOf 5 a p x ++ n) = textOf 5 a p x := by
  rw [strip_append, hn, List.append_nil]
  exact text5_stripped hv x _ (fun c hc => Or.inl hc)

/-- How many values the unused bits have. -/
def unusN (bits n : Nat) : Nat := 2 ^ (charsN bits n * bits - 8 * n)

theorem sixes_bend : ∀ (l : List UInt8) (k : Nat), 1 ≤ k → k < unusN 6 l.length → (sixes l).getD (charsN 6 l.length - 1) 0 + k < 64 ∧ unsix ((sixes l).set (charsN 6 l.length - 1) ((sixes l).getD (charsN 6 l.length - 1) 0 + k)) = l ∧ unS ((sixes l).set (charsN 6 l.length - 1) ((sixes l).getD (charsN 6 l.length - 1) 0 + k)) ≠ 0
  | a :: b :: c :: t, k, h1, h2 => by
    have hc : charsN 6 (a :: b :: c :: t).length = charsN 6 t.length + 4 := by unfold charsN; simp only [List.length_cons]; omega
    have hu : unusN 6 (a :: b :: c :: t).length = unusN 6 t.length := by
      unfold unusN
      rw [hc]
      congr 1
      simp only [List.length_cons]
      omega
    rw [hu] at h2
    have hpos : 0 < charsN 6 t.length := by
      rcases Nat.eq_zero_or_pos t.length with h | h
      · rw [h] at h2; simp [unusN, charsN] at h2; omega
      · unfold charsN; omega
    obtain ⟨i1, i2, i3⟩ := sixes_bend t k h1 h2
    have ha := a.toNat_lt; have hb := b.toNat_lt; have hcc := c.toNat_lt
    rw [hc, show charsN 6 t.length + 4 - 1 = (charsN 6 t.length - 1) + 1 + 1 + 1 + 1 by omega, sixes]
    simp only [List.getD_cons_succ, List.set_cons_succ, unsix, unS]
    refine ⟨i1, ?_, i3⟩
    rw [i2, ofNat_is a _ (by omega), ofNat_is b _ (by omega), ofNat_is c _ (by omega)]
  | [a, b], k, h1, h2 => by
    have ha := a.toNat_lt; have hb := b.toNat_lt
    simp [unusN, charsN] at h2
    simp only [sixes, show charsN 6 [a, b].length - 1 = 2 by simp [charsN], List.getD_cons_succ, List.getD_cons_zero, List.set_cons_succ, List.set_cons_zero, unsix, unS]
    refine ⟨by omega, ?_, by omega⟩
    rw [ofNat_is a _ (by omega), ofNat_is b _ (by omega)]
  | [a], k, h1, h2 => by
    have ha := a.toNat_lt
    simp [unusN, charsN] at h2
    simp only [sixes, show charsN 6 [a].length - 1 = 1 by simp [charsN], List.getD_cons_succ, List.getD_cons_zero, List.set_cons_succ, List.set_cons_zero, unsix, unS]
    refine ⟨by omega, ?_, by omega⟩
    rw [ofNat_is a _ (by omega)]
  | [], k, h1, h2 => by simp [unusN, charsN] at h2; omega

theorem fives_bend : ∀ (l : List UInt8) (k : Nat), 1 ≤ k → k < unusN 5 l.length → (fives l).getD (charsN 5 l.length - 1) 0 + k < 32 ∧ unfive ((fives l).set (charsN 5 l.length - 1) ((fives l).getD (charsN 5 l.length - 1) 0 + k)) = l ∧ unF ((fives l).set (charsN 5 l.length - 1) ((fives l).getD (charsN 5 l.length - 1) 0 + k)) ≠ 0
  | a :: b :: c :: d :: e :: t, k, h1, h2 => by
    have hc : charsN 5 (a :: b :: c :: d :: e :: t).length = charsN 5 t.length + 8 := by unfold charsN; simp only [List.length_cons]; omega
    have hu : unusN 5 (a :: b :: c :: d :: e :: t).length = unusN 5 t.length := by
      unfold unusN
      rw [hc]
      congr 1
      simp only [List.length_cons]
      omega
    rw [hu] at h2
    have hpos : 0 < charsN 5 t.length := by
      rcases Nat.eq_zero_or_pos t.length with h | h
      · rw [h] at h2; simp [unusN, charsN] at h2; omega
      · unfold charsN; omega
    obtain ⟨i1, i2, i3⟩ := fives_bend t k h1 h2
    have ha := a.toNat_lt; have hb := b.toNat_lt; have hcc := c.toNat_lt; have hd := d.toNat_lt; have he := e.toNat_lt
    rw [hc, show charsN 5 t.length + 8 - 1 = (charsN 5 t.length - 1) + 1 + 1 + 1 + 1 + 1 + 1 + 1 + 1 by omega, fives]
    simp only [List.getD_cons_succ, List.set_cons_succ, unfive, unF]
    refine ⟨i1, ?_, i3⟩
    rw [i2, ofNat_is a _ (by omega), ofNat_is b _ (by omega), ofNat_is c _ (by omega), ofNat_is d _ (by omega), ofNat_is e _ (by omega)]
  | [a, b, c, d], k, h1, h2 => by
    have ha := a.toNat_lt; have hb := b.toNat_lt; have hc := c.toNat_lt; have hd := d.toNat_lt
    simp [unusN, charsN] at h2
    simp only [fives, show charsN 5 [a, b, c, d].length - 1 = 6 by simp [charsN], List.getD_cons_succ, List.getD_cons_zero, List.set_cons_succ, List.set_cons_zero, unfive, unF]
    refine ⟨by omega, ?_, by omega⟩
    rw [ofNat_is a _ (by omega), ofNat_is b _ (by omega), ofNat_is c _ (by omega), ofNat_is d _ (by omega)]
  | [a, b, c], k, h1, h2 => by
    have ha := a.toNat_lt; have hb := b.toNat_lt; have hc := c.toNat_lt
    simp [unusN, charsN] at h2
    simp only [fives, show charsN 5 [a, b, c].length - 1 = 4 by simp [charsN], List.getD_cons_succ, List.getD_cons_zero, List.set_cons_succ, List.set_cons_zero, unfive, unF]
    refine ⟨by omega, ?_, by omega⟩
    rw [ofNat_is a _ (by omega), ofNat_is b _ (by omega), ofNat_is c _ (by omega)]
  | [a, b], k, h1, h2 => by
    have ha := a.toNat_lt; have hb := b.toNat_lt
    simp [unusN, charsN] at h2
    simp only [fives, show charsN 5 [a, b].length - 1 = 3 by simp [charsN], List.getD_cons_succ, List.getD_cons_zero, List.set_cons_succ, List.set_cons_zero, unfive, unF]
    refine ⟨by omega, ?_, by omega⟩
    rw [ofNat_is a _ (by omega), ofNat_is b _ (by omega)]
  | [a], k, h1, h2 => by
    have ha := a.toNat_lt
    simp [unusN, charsN] at h2
    simp only [fives, show charsN 5 [a].length - 1 = 1 by simp [charsN], List.getD_cons_succ, List.getD_cons_zero, List.set_cons_succ, List.set_cons_zero, unfive, unF]
    refine ⟨by omega, ?_, by omega⟩
    rw [ofNat_is a _ (by omega)]
  | [], k, h1, h2 => by simp [unusN, charsN] at h2; omega

/-- The last letter of a text in place of which the k-th behind it stands: the text stays well formed, its numbers are those with the last one k greater. -/
theorem text6_bent {a : List UInt8} {p : Int} (hv : validP 6 a p) (l : List UInt8) (k : Nat) (h1 : 1 ≤ k) (h2 : k < unusN 6 l.length) :
    ∃ v, v + k < 64 ∧ (textOf 6 a p l)[charsN 6 l.length - 1]? = some (letter a v) ∧ 0 < charsN 6 l.length ∧ strip ((textOf 6 a p l).set (charsN 6 l.length - 1) (letter a (v + k))) = (textOf 6 a p l).set (charsN 6 l.length - 1) (letter a (v + k)) ∧ fineB 6 a p ((textOf 6 a p l).set (charsN 6 l.length - 1) (letter a (v + k))) = true ∧ unsix (numsOf a ((textOf 6 a p l).set (charsN 6 l.length - 1) (letter a (v + k)))) = l ∧ unS (numsOf a ((textOf 6 a p l).set (charsN 6 l.length - 1) (letter a (v + k)))) ≠ 0 := by
  have hpos : 0 < charsN 6 l.length := by
    rcases Nat.eq_zero_or_pos l.length with h | h
    · rw [h] at h2; simp [unusN, charsN] at h2; omega
    · unfold charsN; omega
  obtain ⟨b1, b2, b3⟩ := sixes_bend l k h1 h2
  have hcl : (sixes l).length = charsN 6 l.length := sixes_length l
  obtain ⟨v, hvd⟩ : ∃ v, v = (sixes l).getD (charsN 6 l.length - 1) 0 := ⟨_, rfl⟩
  rw [← hvd] at b1 b2 b3
  have hL := isL_letter6 hv (v + k) b1
  have htl := textOf_length6 a p l
  have hcs := (lenN6_facts p l.length).1
  have hset : ∀ j, ((textOf 6 a p l).set (charsN 6 l.length - 1) (letter a (v + k)))[j]? = if j = charsN 6 l.length - 1 then some (letter a (v + k)) else (textOf 6 a p l)[j]? := fun j => by
    rw [List.getElem?_set]
    by_cases h : j = charsN 6 l.length - 1
    · rw [if_pos h.symm, if_pos h, if_pos (by rw [htl]; omega)]
    · rw [if_neg (Ne.symm h), if_neg h]
  have hlet : ∀ j, j < charsN 6 l.length → ∃ c, ((textOf 6 a p l).set (charsN 6 l.length - 1) (letter a (v + k)))[j]? = some c ∧ isL a c = true ∧ numL a c = ((sixes l).set (charsN 6 l.length - 1) (v + k)).getD j 0 := fun j hj => by
    rw [hset j]
    by_cases h : j = charsN 6 l.length - 1
    · rw [if_pos h]
      refine ⟨_, rfl, hL.1, ?_⟩
      rw [hL.2, h]
      simp [List.getD, hcl, show charsN 6 l.length - 1 < charsN 6 l.length by omega]
    · rw [if_neg h]
      have hj2 : j < (textOf 6 a p l).length := by rw [htl]; omega
      obtain ⟨u, hu1, hu2, e, _⟩ := text6_letter hv l j hj _ (List.getElem?_eq_getElem hj2)
      refine ⟨_, List.getElem?_eq_getElem hj2, by rw [e]; exact (isL_letter6 hv u hu2).1, ?_⟩
      rw [e, (isL_letter6 hv u hu2).2]
      have hu3 : (sixes l)[j]? = some u := hu1
      simp [List.getD, Ne.symm h, hu3]
  have hli : lettersIn a ((textOf 6 a p l).set (charsN 6 l.length - 1) (letter a (v + k))) = charsN 6 l.length := by
    apply lettersIn_stop
    · rw [List.length_set, htl]; exact hcs
    · intro j hj hk
      obtain ⟨c, e, hc, _⟩ := hlet j hk
      rw [List.getElem?_eq_getElem hj] at e
      simp only [Option.some.injEq] at e
      rw [e]
      exact of_decide_eq_true hc
    · intro h
      rw [List.length_set, htl] at h
      have e := hset (charsN 6 l.length)
      rw [if_neg (by omega)] at e
      have h5 := text6_pad a p l _ (Nat.le_refl _) h
      rw [h5.1, List.getElem?_eq_getElem (by rw [List.length_set, htl]; exact h)] at e
      simp only [Option.some.injEq] at e
      rw [e, padB_toNat p h5.2 hv.2.2.1, pad_not6 hv]
      omega
  have hnums : numsOf a ((textOf 6 a p l).set (charsN 6 l.length - 1) (letter a (v + k))) = (sixes l).set (charsN 6 l.length - 1) (v + k) := by
    apply List.ext_getElem?
    intro j
    rcases Nat.lt_or_ge j (charsN 6 l.length) with hj | hj
    · obtain ⟨c, e, hc, hn⟩ := hlet j hj
      unfold numsOf
      rw [hli, List.getElem?_map, List.getElem?_take, if_pos hj, e, Option.map_some, show (idx a (c.toNat : Int)).toNat = numL a c from rfl, hn]
      rw [List.getD_eq_getElem?_getD, List.getElem?_eq_getElem (by rw [List.length_set, hcl]; exact hj)]
      rfl
    · rw [List.getElem?_eq_none (by rw [numsOf_length, hli]; exact hj), List.getElem?_eq_none (by rw [List.length_set, hcl]; exact hj)]
  have e0 : charsN 6 l.length * 6 / 8 = l.length := by unfold charsN; omega
  refine ⟨v, b1, ?_, hpos, ?_, ?_, by rw [hnums]; exact b2, by rw [hnums]; exact b3⟩
  · have hj2 : charsN 6 l.length - 1 < (textOf 6 a p l).length := by rw [htl]; omega
    obtain ⟨u, hu1, hu2, e, _⟩ := text6_letter hv l _ (by omega) _ (List.getElem?_eq_getElem hj2)
    rw [List.getElem?_eq_getElem hj2, e]
    have hu3 : (sixes l)[charsN 6 l.length - 1]? = some u := hu1
    rw [hvd, List.getD_eq_getElem?_getD, hu3]
    rfl
  · refine text6_stripped hv l _ (fun c hc => ?_)
    rcases List.mem_or_eq_of_mem_set hc with h | h
    · exact Or.inl h
    · refine Or.inr ?_
      rw [h]
      cases hn : isNL (letter a (v + k)) with
      | false => rfl
      | true => have := hL.1; rw [nl_not hv _ hn] at this; cases this
  · refine fineB_true ?_ (by rw [hli, e0]) (by rw [hli, e0, List.length_set, htl])
    intro c hc
    rw [hli] at hc
    obtain ⟨j, hj, rfl⟩ := List.getElem_of_mem hc
    rw [List.length_drop, List.length_set, htl] at hj
    have e := hset (charsN 6 l.length + j)
    rw [if_neg (by omega)] at e
    have h5 := text6_pad a p l (charsN 6 l.length + j) (by omega) (by omega)
    rw [h5.1, List.getElem?_eq_getElem (by rw [List.length_set, htl]; omega)] at e
    simp only [Option.some.injEq] at e
    rw [List.getElem_drop, e]
    exact ⟨h5.2, padB_toNat p h5.2 hv.2.2.1⟩

/-- The last letter of a text in place of which the k-th behind it stands: the text stays well formed, its numbers are those with the last one k greater. -/
theorem text5_bent {a : List UInt8} {p : Int} (hv : validP 5 a p) (l : List UInt8) (k : Nat) (h1 : 1 ≤ k) (h2 : k < unusN 5 l.length) :
    ∃ v, v + k < 32 ∧ (textOf 5 a p l)[charsN 5 l.length - 1]? = some (letter a v) ∧ 0 < charsN 5 l.length ∧ strip ((textOf 5 a p l).set (charsN 5 l.length - 1) (letter a (v + k))) = (textOf 5 a p l).set (charsN 5 l.length - 1) (letter a (v + k)) ∧ fineB 5 a p ((textOf 5 a p l).set (charsN 5 l.length - 1) (letter a (v + k))) = true ∧ unfive (numsOf a ((textOf 5 a p l).set (charsN 5 l.length - 1) (letter a (v + k)))) = l ∧ unF (numsOf a ((textOf 5 a p l).set (charsN 5 l.length - 1) (letter a (v + k)))) ≠ 0 := by
  have hpos : 0 < charsN 5 l.length := by
    rcases Nat.eq_zero_or_pos l.length with h | h
    · rw [h] at h2; simp [unusN, charsN] at h2; omega
    · unfold charsN; omega
  obtain ⟨b1, b2, b3⟩ := fives_bend l k h1 h2
  have hcl : (fives l).length = charsN 5 l.length := fives_length l
  obtain ⟨v, hvd⟩ : ∃ v, v = (fives l).getD (charsN 5 l.length - 1) 0 := ⟨_, rfl⟩
  rw [← hvd] at b1 b2 b3
  have hL := isL_letter5 hv (v + k) b1
  have htl := textOf_length5 a p l
  have hcs := (lenN5_facts p l.length).1
  have hset : ∀ j, ((textOf 5 a p l).set (charsN 5 l.length - 1) (letter a (v + k)))[j]? = if j = charsN 5 l.length - 1 then some (letter a (v + k)) else (textOf 5 a p l)[j]? := fun j => by
    rw [List.getElem?_set]
    by_cases h : j = charsN 5 l.length - 1
    · rw [if_pos h.symm, if_pos h, if_pos (by rw [htl]; omega)]
    · rw [if_neg (Ne.symm h), if_neg h]
  have hlet : ∀ j, j < charsN 5 l.length → ∃ c, ((textOf 5 a p l).set (charsN 5 l.length - 1) (letter a (v + k)))[j]? = some c ∧ isL a c = true ∧ numL a c = ((fives l).set (charsN 5 l.length - 1) (v + k)).getD j 0 := fun j hj => by
    rw [hset j]
    by_cases h : j = charsN 5 l.length - 1
    · rw [if_pos h]
      refine ⟨_, rfl, hL.1, ?_⟩
      rw [hL.2, h]
      simp [List.getD, hcl, show charsN 5 l.length - 1 < charsN 5 l.length by omega]
    · rw [if_neg h]
      have hj2 : j < (textOf 5 a p l).length := by rw [htl]; omega
      obtain ⟨u, hu1, hu2, e, _⟩ := text5_letter hv l j hj _ (List.getElem?_eq_getElem hj2)
      refine ⟨_, List.getElem?_eq_getElem hj2, by rw [e]; exact (isL_letter5 hv u hu2).1, ?_⟩
      rw [e, (isL_letter5 hv u hu2).2]
      have hu3 : (fives l)[j]? = some u := hu1
      simp [List.getD, Ne.symm h, hu3]
  have hli : lettersIn a ((textOf 5 a p l).set (charsN 5 l.length - 1) (letter a (v + k))) = charsN 5 l.length := by
    apply lettersIn_stop
    · rw [List.length_set, htl]; exact hcs
    · intro j hj hk
      obtain ⟨c, e, hc, _⟩ := hlet j hk
      rw [List.getElem?_eq_getElem hj] at e
      simp only [Option.some.injEq] at e
      rw [e]
      exact of_decide_eq_true hc
    · intro h
      rw [List.length_set, htl] at h
      have e := hset (charsN 5 l.length)
      rw [if_neg (by omega)] at e
      have h5 := text5_pad a p l _ (Nat.le_refl _) h
      rw [h5.1, List.getElem?_eq_getElem (by rw [List.length_set, htl]; exact h)] at e
      simp only [Option.some.injEq] at e
      rw [e, padB_toNat p h5.2 hv.2.2.1, pad_not5 hv]
      omega
  have hnums : numsOf a ((textOf 5 a p l).set (charsN 5 l.length - 1) (letter a (v + k))) = (fives l).set (charsN 5 l.length - 1) (v + k) := by
    apply List.ext_getElem?
    intro j
    rcases Nat.lt_or_ge j (charsN 5 l.length) with hj | hj
    · obtain ⟨c, e, hc, hn⟩ := hlet j hj
      unfold numsOf
      rw [hli, List.getElem?_map, List.getElem?_take, if_pos hj, e, Option.map_some, show (idx a (c.toNat : Int)).toNat = numL a c from rfl, hn]
      rw [List.getD_eq_getElem?_getD, List.getElem?_eq_getElem (by rw [List.length_set, hcl]; exact hj)]
      rfl
    · rw [List.getElem?_eq_none (by rw [numsOf_length, hli]; exact hj), List.getElem?_eq_none (by rw [List.length_set, hcl]; exact hj)]
  have e0 : charsN 5 l.length * 5 / 8 = l.length := by unfold charsN; omega
  refine ⟨v, b1, ?_, hpos, ?_, ?_, by rw [hnums]; exact b2, by rw [hnums]; exact b3⟩
  · have hj2 : charsN 5 l.length - 1 < (textOf 5 a p l).length := by rw [htl]; omega
    obtain ⟨u, hu1, hu2, e, _⟩ := text5_letter hv l _ (by omega) _ (List.getElem?_eq_getElem hj2)
    rw [List.getElem?_eq_getElem hj2, e]
    have hu3 : (fives l)[charsN 5 l.length - 1]? = some u := hu1
    rw [hvd, List.getD_eq_getElem?_getD, hu3]
    rfl
  · refine text5_stripped hv l _ (fun c hc => ?_)
    rcases List.mem_or_eq_of_mem_set hc with h | h
    · exact Or.inl h
    · refine Or.inr ?_
      rw [h]
      cases hn : isNL (letter a (v + k)) with
      | false => rfl
      | true => have := hL.1; rw [nl_not hv _ hn] at this; cases this
  · refine fineB_true ?_ (by rw [hli, e0]) (by rw [hli, e0, List.length_set, htl])
    intro c hc
    rw [hli] at hc
    obtain ⟨j, hj, rfl⟩ := List.getElem_of_mem hc
    rw [List.length_drop, List.length_set, htl] at hj
    have e := hset (charsN 5 l.length + j)
    rw [if_neg (by omega)] at e
    have h5 := text5_pad a p l (charsN 5 l.length + j) (by omega) (by omega)
    rw [h5.1, List.getElem?_eq_getElem (by rw [List.length_set, htl]; omega)] at e
    simp only [Option.some.injEq] at e
    rw [List.getElem_drop, e]
    exact ⟨h5.2, padB_toNat p h5.2 hv.2.2.1⟩

end Go.Proofs.Ytkiipbpcaakkoaa
