/-
  Plain facts for the laws on decoding of base32: texts, texts with a foreign byte, cut, joined, with unused bits. No program in sight. Conditions: the alphabet and the padding are valid; without padding, there is no byte 255 in the alphabet.
-/
import Derived.Test.YtkiipbpcaakkoaaOctT
import Derived.Test.YtkiipbpcaakkoaaHelpD
namespace Go.Proofs.Ytkiipbpcaakkoaa

/-- There is padding, or no byte 255 in the alphabet. -/
def CleanA (a : List UInt8) (p : Int) : Prop := 0 ≤ p ∨ idx a 255 < 0

theorem clean_pad {a : List UInt8} {p : Int} (hv : validP 5 a p) (hc : CleanA a p) (c : UInt8) (h : isL a c = true) : (c.toNat : Int) ≠ padOf p := by
  rcases Int.lt_or_le p 0 with hp | hp
  · obtain rfl : p = -1 := by have := hv.2.1; omega
    intro e
    have e2 : (c.toNat : Int) = 255 := by rw [e]; rfl
    unfold isL at h
    rw [e2, decide_eq_true_iff] at h
    rcases hc with hc | hc
    · omega
    · omega
  · rw [padOf_nat hp hv.2.2.1]
    exact pad_not_letter hv c h

theorem text5_fine {a : List UInt8} {p : Int} (hv : validP 5 a p) (l : List UInt8) : fineB 5 a p (textOf 5 a p l) = true := by
  have hL := lettersIn_text5 hv l
  have e : charsN 5 l.length * 5 / 8 = l.length := by unfold charsN; omega
  refine fineB_true ?_ (by rw [hL, e]) (by rw [hL, e, textOf_length5])
  intro c hc
  rw [hL] at hc
  obtain ⟨j, hj, rfl⟩ := List.getElem_of_mem hc
  rw [List.getElem_drop]
  rw [List.length_drop, textOf_length5] at hj
  obtain ⟨h1, h2⟩ := text5_pad a p l (charsN 5 l.length + j) (by omega) (by omega)
  rw [List.getElem?_eq_getElem (by rw [textOf_length5]; omega)] at h1
  simp only [Option.some.injEq] at h1
  rw [h1]
  exact ⟨h2, padB_toNat p h2 hv.2.2.1⟩

theorem dec32_fine {a : List UInt8} {p : Int} (hv : validP 5 a p) (hc : CleanA a p) (s : List UInt8) (hf : fineB 5 a p (strip s) = true) : dec32 a p s = (unfive (numsOf a (strip s)), none) :=
  oct_fine hv.2.1 hv.2.2.1 _ (clean_pad hv hc) (strip s).length (strip s) (Nat.le_refl _) hf

theorem dec_text5 {a : List UInt8} {p : Int} (hv : validP 5 a p) (hc : CleanA a p) (l s : List UInt8) (hs : strip s = textOf 5 a p l) : dec32 a p s = (l, none) := by
  rw [dec32_fine hv hc s (by rw [hs]; exact text5_fine hv l), hs, numsOf_text5 hv, unfive_fives]

theorem idx_low (t : List UInt8) (p : Int) (m : Nat) (h : ∀ j c, j < m → t[j]? = some c → (c.toNat : Int) ≠ p) (h0 : 0 ≤ idx t p) : (m : Int) ≤ idx t p := by
  unfold idx at h0 ⊢
  cases hf : t.findIdx? (fun c => (c.toNat : Int) == p) with
  | none => rw [hf] at h0; simp at h0
  | some i =>
    simp only
    obtain ⟨hi, hp, _⟩ := List.findIdx?_eq_some_iff_getElem.1 hf
    rcases Nat.lt_or_ge i m with hlt | hge
    · exact absurd (by simpa using hp) (h i _ hlt (List.getElem?_eq_getElem hi))
    · omega

theorem not_beh (t : List UInt8) (p : Int) (m : Nat) (h : ∀ j c, j < m → t[j]? = some c → (c.toNat : Int) ≠ p) (hl : t.length ≤ (m / 8 + 1) * 8) : behB p t = false := by
  rw [Bool.eq_false_iff]
  intro hb
  unfold behB at hb
  simp only [Bool.and_eq_true, decide_eq_true_eq] at hb
  obtain ⟨_, h1, h2⟩ := hb
  have := idx_low t p m h h1
  omega

/-- What is not well formed is refused, where there is padding and nothing stands behind the group of the first padding. -/
theorem dec32_no {a : List UInt8} {p : Int} (hv : validP 5 a p) (hp : 0 ≤ p) (s : List UInt8) (hf : fineB 5 a p (strip s) = false) (hb : behB p (strip s) = false) : ∃ l n, dec32 a p s = (l, some n) := by
  cases h2 : (dec32 a p s).2 with
  | none =>
    rcases oct_ok hv.2.1 hv.2.2.1 (strip s).length (clean_pad hv (Or.inl hp)) (strip s).length (strip s) (Nat.le_refl _) (fun h => by omega) h2 with h | h | h
    · rw [hf] at h; cases h
    · omega
    · rw [hb] at h; cases h
  | some n => exact ⟨(dec32 a p s).1, n, by rw [← h2]⟩

theorem text5_not_pad {a : List UInt8} {p : Int} (hv : validP 5 a p) (l : List UInt8) (j : Nat) (c : UInt8) (hj : j < charsN 5 l.length) (hc : (textOf 5 a p l)[j]? = some c) : (c.toNat : Int) ≠ p ∧ isL a c = true := by
  obtain ⟨v, _, hlt, e, _⟩ := text5_letter hv l j hj c hc
  have := (isL_letter5 hv v hlt).1
  rw [← e] at this
  exact ⟨pad_not_letter hv c this, this⟩

theorem text5_short_no {a : List UInt8} {p : Int} (hv : validP 5 a p) (hp : 0 ≤ p) (l : List UInt8) (hl : 0 < l.length) (s : List UInt8) (hs : s = (textOf 5 a p l).take (lenN 5 p l.length - 1)) : ∃ bs n, dec32 a p s = (bs, some n) := by
  subst hs
  have hst := text5_stripped hv l _ (fun c (hc : c ∈ (textOf 5 a p l).take (lenN 5 p l.length - 1)) => Or.inl (List.mem_of_mem_take hc))
  refine dec32_no hv hp _ (text5_short hv hp l hl) ?_
  rw [hst]
  have hf := lenN5_facts p l.length
  have h8 := hf.2.2.2.1 hp
  refine not_beh _ p (charsN 5 l.length) (fun j c hj hc => ?_) ?_
  · rw [List.getElem?_take] at hc
    split at hc
    · exact (text5_not_pad hv l j c hj hc).1
    · cases hc
  · rw [List.length_take, textOf_length5]
    omega

theorem text5_pads_no {a : List UInt8} {p : Int} (hv : validP 5 a p) (hp : 0 ≤ p) (l : List UInt8) (hl : l.length % 5 = 0) (s : List UInt8) (hs : s = textOf 5 a p l ++ [padB p]) : ∃ bs n, dec32 a p s = (bs, some n) := by
  subst hs
  obtain ⟨hst, hfi⟩ := text5_pads hv hp l
  refine dec32_no hv hp _ hfi ?_
  rw [hst]
  have hf := lenN5_facts p l.length
  have h8 := hf.2.2.2.1 hp
  have hc8 : charsN 5 l.length % 8 = 0 := by unfold charsN; omega
  refine not_beh _ p (charsN 5 l.length) (fun j c hj hc => ?_) ?_
  · rw [List.getElem?_append_left (by rw [textOf_length5]; omega)] at hc
    exact (text5_not_pad hv l j c hj hc).1
  · rw [List.length_append, textOf_length5, List.length_singleton]
    omega

theorem foreign_pad {a : List UInt8} {p : Int} (hv : validP 5 a p) (b : UInt8) (h2 : (b.toNat : Int) ≠ p) (h255 : 0 ≤ p ∨ b.toNat ≠ 255) : (b.toNat : Int) ≠ padOf p := by
  rcases Int.lt_or_le p 0 with hp | hp
  · obtain rfl : p = -1 := by have := hv.2.1; omega
    show (b.toNat : Int) ≠ 255
    omega
  · rw [padOf_nat hp hv.2.2.1]
    exact h2

/-- A foreign byte among the letters of a text, or right behind them. -/
theorem text5_foreign_no {a : List UInt8} {p : Int} (hv : validP 5 a p) (hcl : CleanA a p) (l : List UInt8) (k : Nat) (hk : k ≤ charsN 5 l.length) (b : UInt8) (h1 : isL a b = false) (h2 : (b.toNat : Int) ≠ p) (h3 : isNL b = false) (h255 : 0 ≤ p ∨ b.toNat ≠ 255) (s : List UInt8) (hs : s = (textOf 5 a p l).take k ++ [b] ++ (textOf 5 a p l).drop k) : ∃ bs n, dec32 a p s = (bs, some n) := by
  subst hs
  have hst := (text5_foreign hv l k b h1 h2 h3).1
  have h := octDec_foreign a p ((textOf 5 a p l).take k ++ [b] ++ (textOf 5 a p l).drop k).length (clean_pad hv hcl) b h1 _ ((textOf 5 a p l).take k) ((textOf 5 a p l).drop k) rfl (fun c hc => by
    obtain ⟨j, hj, rfl⟩ := List.getElem_of_mem hc
    rw [List.length_take] at hj
    rw [List.getElem_take]
    exact (text5_not_pad hv l j _ (by omega) (List.getElem?_eq_getElem _)).2) (Or.inl (foreign_pad hv b h2 h255))
  have e : dec32 a p ((textOf 5 a p l).take k ++ [b] ++ (textOf 5 a p l).drop k) = octDec a p ((textOf 5 a p l).take k ++ [b] ++ (textOf 5 a p l).drop k).length ((textOf 5 a p l).take k ++ b :: (textOf 5 a p l).drop k) := by
    unfold dec32
    rw [hst]
    congr 1
    simp
  exact ⟨_, _, e.trans h⟩

theorem text5_nums {a : List UInt8} {p : Int} (hv : validP 5 a p) (l : List UInt8) (k : Nat) (hk : k ≤ charsN 5 l.length) : ((textOf 5 a p l).take k).map (numL a) = (fives l).take k := by
  have htl := textOf_length5 a p l
  have hcs := (lenN5_facts p l.length).1
  apply List.ext_getElem?
  intro j
  rcases Nat.lt_or_ge j k with hj | hj
  · have hj2 : j < (textOf 5 a p l).length := by rw [htl]; omega
    obtain ⟨u, hu1, hu2, e, _⟩ := text5_letter hv l j (by omega) _ (List.getElem?_eq_getElem hj2)
    have hu3 : (fives l)[j]? = some u := hu1
    rw [List.getElem?_map, List.getElem?_take, if_pos hj, List.getElem?_eq_getElem hj2, Option.map_some, e, (isL_letter5 hv u hu2).2, List.getElem?_take, if_pos hj, hu3]
  · rw [List.getElem?_eq_none (by simp; omega), List.getElem?_eq_none (by simp; omega)]

/-- A foreign byte in the place of a letter. -/
theorem text5_offset {a : List UInt8} {p : Int} (hv : validP 5 a p) (hcl : CleanA a p) (l : List UInt8) (k : Nat) (hk : k < charsN 5 l.length) (b : UInt8) (h1 : isL a b = false) (h2 : (b.toNat : Int) ≠ p) (h3 : isNL b = false) (h255 : 0 ≤ p ∨ b.toNat ≠ 255) :
    dec32 a p ((textOf 5 a p l).set k b) = (l.take (5 * (k / 8)), some (k : Int)) := by
  have htl := textOf_length5 a p l
  have hcs := (lenN5_facts p l.length).1
  have hst : strip ((textOf 5 a p l).set k b) = (textOf 5 a p l).set k b := text5_stripped hv l _ (fun c hc => by
    rcases List.mem_or_eq_of_mem_set hc with h | h
    · exact Or.inl h
    · exact Or.inr (by rw [h]; exact h3))
  have hsp : (textOf 5 a p l).set k b = (textOf 5 a p l).take k ++ b :: (textOf 5 a p l).drop (k + 1) := by
    rw [List.set_eq_take_append_cons_drop, if_pos (by rw [htl]; omega)]
  unfold dec32
  rw [hst, List.length_set, hsp]
  have hlt : ((textOf 5 a p l).take k).length = k := by rw [List.length_take, htl]; omega
  rw [octDec_foreign a p _ (clean_pad hv hcl) b h1 _ ((textOf 5 a p l).take k) ((textOf 5 a p l).drop (k + 1)) rfl (fun c hc => ?_) (Or.inl (foreign_pad hv b h2 h255)), hlt, List.take_take, Nat.min_eq_left (by omega), text5_nums hv l _ (by omega), unfive_take _ _ (by rw [fives_length]; omega), unfive_fives, List.length_drop, htl]
  · congr 2
    omega
  · obtain ⟨j, hj, rfl⟩ := List.getElem_of_mem hc
    rw [List.length_take] at hj
    rw [List.getElem_take]
    exact (text5_not_pad hv l j _ (by omega) (List.getElem?_eq_getElem _)).2

/-- Two texts of which the first one has padding. -/
theorem text5_joined_no {a : List UInt8} {p : Int} (hv : validP 5 a p) (hp : 0 ≤ p) (x y : List UInt8) (hx : charsN 5 x.length < lenN 5 p x.length) (hy : 0 < y.length) (s : List UInt8) (hs : s = textOf 5 a p x ++ textOf 5 a p y) : ∃ bs n, dec32 a p s = (bs, some n) := by
  subst hs
  have hst := (text5_joined hv hp x y hx hy).1
  have hly : 8 ≤ (textOf 5 a p y).length := by
    rw [textOf_length5]
    have hf := lenN5_facts p y.length
    have := hf.2.2.2.1 hp
    have hc : 0 < charsN 5 y.length := by unfold charsN; omega
    omega
  have hpd := (text5_pad a p x _ (Nat.le_refl _) hx).1
  have hpl : isL a (padB p) = false := by
    cases h : isL a (padB p)
    · rfl
    · exact absurd (padB_toNat p hp hv.2.2.1) (pad_not_letter hv _ h)
  have hsp : textOf 5 a p x = (textOf 5 a p x).take (charsN 5 x.length) ++ padB p :: (textOf 5 a p x).drop (charsN 5 x.length + 1) := by
    conv => lhs; rw [← List.take_append_drop (charsN 5 x.length) (textOf 5 a p x), drop_cons _ _ _ hpd]
  have h := octDec_foreign a p (textOf 5 a p x ++ textOf 5 a p y).length (clean_pad hv (Or.inl hp)) (padB p) hpl _ ((textOf 5 a p x).take (charsN 5 x.length)) ((textOf 5 a p x).drop (charsN 5 x.length + 1) ++ textOf 5 a p y) rfl (fun c hc => by
    obtain ⟨j, hj, rfl⟩ := List.getElem_of_mem hc
    rw [List.length_take] at hj
    rw [List.getElem_take]
    exact (text5_not_pad hv x j _ (by omega) (List.getElem?_eq_getElem _)).2) (Or.inr (Or.inl (by rw [List.length_append]; omega)))
  have e : dec32 a p (textOf 5 a p x ++ textOf 5 a p y) = octDec a p (textOf 5 a p x ++ textOf 5 a p y).length ((textOf 5 a p x).take (charsN 5 x.length) ++ padB p :: ((textOf 5 a p x).drop (charsN 5 x.length + 1) ++ textOf 5 a p y)) := by
    unfold dec32
    rw [hst]
    congr 1
    conv => lhs; rw [hsp]
    simp
  exact ⟨_, _, e.trans h⟩

end Go.Proofs.Ytkiipbpcaakkoaa
