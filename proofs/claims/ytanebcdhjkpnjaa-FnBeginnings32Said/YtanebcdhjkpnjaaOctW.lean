/-
  A well formed text of base32 whose unused bits are zero is the text of its bytes. No program in sight. Conditions: the alphabet and the padding are valid.
-/
import Derived.Test.YtanebcdhjkpnjaaOctV
namespace Go.Proofs.Ytanebcdhjkpnjaa

theorem fives_unfive : ∀ ns : List Nat, (∀ v ∈ ns, v < 32) → charsN 5 (ns.length * 5 / 8) = ns.length → unF ns = 0 → fives (unfive ns) = ns
  | a :: b :: c :: d :: e :: f :: g :: h :: t, hv, hl, hu => by
    have h0 := hv a (by simp); have h1 := hv b (by simp); have h2 := hv c (by simp); have h3 := hv d (by simp); have h4 := hv e (by simp); have h5 := hv f (by simp); have h6 := hv g (by simp); have h7 := hv h (by simp)
    have hl' : charsN 5 (t.length * 5 / 8) = t.length := by
      simp only [List.length_cons] at hl
      have e1 : (t.length + 1 + 1 + 1 + 1 + 1 + 1 + 1 + 1) * 5 / 8 = t.length * 5 / 8 + 5 := by omega
      rw [e1, charsN5_step] at hl
      omega
    have ih := fives_unfive t (fun v hm => hv v (by simp [hm])) hl' hu
    rw [unfive, fives, ih, UInt8.toNat_ofNat_of_lt' (by show _ < 256; omega), UInt8.toNat_ofNat_of_lt' (by show _ < 256; omega), UInt8.toNat_ofNat_of_lt' (by show _ < 256; omega), UInt8.toNat_ofNat_of_lt' (by show _ < 256; omega), UInt8.toNat_ofNat_of_lt' (by show _ < 256; omega)]
    refine List.cons_eq_cons.2 ⟨by omega, List.cons_eq_cons.2 ⟨by omega, List.cons_eq_cons.2 ⟨by omega, List.cons_eq_cons.2 ⟨by omega, List.cons_eq_cons.2 ⟨by omega, List.cons_eq_cons.2 ⟨by omega, List.cons_eq_cons.2 ⟨by omega, List.cons_eq_cons.2 ⟨by omega, rfl⟩⟩⟩⟩⟩⟩⟩⟩
  | [a, b, c, d, e, f, g], hv, hl, hu => by
    have h0 := hv a (by simp); have h1 := hv b (by simp); have h2 := hv c (by simp); have h3 := hv d (by simp); have h4 := hv e (by simp); have h5 := hv f (by simp); have h6 := hv g (by simp)
    simp only [unF] at hu
    rw [unfive, fives, UInt8.toNat_ofNat_of_lt' (by show _ < 256; omega), UInt8.toNat_ofNat_of_lt' (by show _ < 256; omega), UInt8.toNat_ofNat_of_lt' (by show _ < 256; omega), UInt8.toNat_ofNat_of_lt' (by show _ < 256; omega)]
    refine List.cons_eq_cons.2 ⟨by omega, List.cons_eq_cons.2 ⟨by omega, List.cons_eq_cons.2 ⟨by omega, List.cons_eq_cons.2 ⟨by omega, List.cons_eq_cons.2 ⟨by omega, List.cons_eq_cons.2 ⟨by omega, List.cons_eq_cons.2 ⟨by omega, rfl⟩⟩⟩⟩⟩⟩⟩
  | [a, b, c, d, e, f], hv, hl, hu => by simp [charsN] at hl
  | [a, b, c, d, e], hv, hl, hu => by
    have h0 := hv a (by simp); have h1 := hv b (by simp); have h2 := hv c (by simp); have h3 := hv d (by simp); have h4 := hv e (by simp)
    simp only [unF] at hu
    rw [unfive, fives, UInt8.toNat_ofNat_of_lt' (by show _ < 256; omega), UInt8.toNat_ofNat_of_lt' (by show _ < 256; omega), UInt8.toNat_ofNat_of_lt' (by show _ < 256; omega)]
    refine List.cons_eq_cons.2 ⟨by omega, List.cons_eq_cons.2 ⟨by omega, List.cons_eq_cons.2 ⟨by omega, List.cons_eq_cons.2 ⟨by omega, List.cons_eq_cons.2 ⟨by omega, rfl⟩⟩⟩⟩⟩
  | [a, b, c, d], hv, hl, hu => by
    have h0 := hv a (by simp); have h1 := hv b (by simp); have h2 := hv c (by simp); have h3 := hv d (by simp)
    simp only [unF] at hu
    rw [unfive, fives, UInt8.toNat_ofNat_of_lt' (by show _ < 256; omega), UInt8.toNat_ofNat_of_lt' (by show _ < 256; omega)]
    refine List.cons_eq_cons.2 ⟨by omega, List.cons_eq_cons.2 ⟨by omega, List.cons_eq_cons.2 ⟨by omega, List.cons_eq_cons.2 ⟨by omega, rfl⟩⟩⟩⟩
  | [a, b, c], hv, hl, hu => by simp [charsN] at hl
  | [a, b], hv, hl, hu => by
    have h0 := hv a (by simp); have h1 := hv b (by simp)
    simp only [unF] at hu
    rw [unfive, fives, UInt8.toNat_ofNat_of_lt' (by show _ < 256; omega)]
    refine List.cons_eq_cons.2 ⟨by omega, List.cons_eq_cons.2 ⟨by omega, rfl⟩⟩
  | [a], hv, hl, hu => by simp [charsN] at hl
  | [], _, _, _ => rfl

theorem unfive_length : ∀ ns : List Nat, (unfive ns).length = ns.length * 5 / 8
  | a :: b :: c :: d :: e :: f :: g :: h :: t => by
    have := unfive_length t
    simp only [unfive, List.length_cons, this]
    omega
  | [_, _, _, _, _, _, _] => by simp [unfive]
  | [_, _, _, _, _, _] => by simp [unfive]
  | [_, _, _, _, _] => by simp [unfive]
  | [_, _, _, _] => by simp [unfive]
  | [_, _, _] => by simp [unfive]
  | [_, _] => by simp [unfive]
  | [_] => by simp [unfive]
  | [] => by simp [unfive]

theorem canon5 {a : List UInt8} {p : Int} (hv : validP 5 a p) (t : List UInt8) (hf : fineB 5 a p t = true) (hz : unF (numsOf a t) = 0) : textOf 5 a p (unfive (numsOf a t)) = t := by
  obtain ⟨f1, f2, f3⟩ := fineB_parts hf
  have hnl := numsOf_length a t
  have hle := lettersIn_le a t
  have hlt : ∀ i, (h : i < lettersIn a t) → isL a (t[i]'(by omega)) = true := by
    intro i h
    exact isL_of_lt a t i _ h (List.getElem?_eq_getElem _)
  have hsm : ∀ v ∈ numsOf a t, v < 32 := by
    intro v hm
    obtain ⟨j, hj, rfl⟩ := List.getElem_of_mem hm
    rw [hnl] at hj
    have := (numL_back hv _ (hlt j hj)).2
    simp only [numsOf, List.getElem_map, List.getElem_take]
    exact this
  have hs := fives_unfive (numsOf a t) hsm (by rw [hnl]; exact f2) hz
  have hul := unfive_length (numsOf a t)
  rw [hnl] at hul
  have hletters : lettersOf 5 a (unfive (numsOf a t)) = t.take (lettersIn a t) := by
    unfold lettersOf
    rw [show codes 5 (unfive (numsOf a t)) = fives (unfive (numsOf a t)) from rfl, hs]
    apply List.ext_getElem
    · simp [hnl]; omega
    · intro i h1 h2
      simp only [List.length_map, hnl] at h1
      simp only [List.getElem_map, numsOf, List.getElem_take]
      exact (numL_back hv _ (hlt i h1)).1
  have hpads : t.drop (lettersIn a t) = List.replicate (padN 5 p (lettersIn a t * 5 / 8)) (padB p) := by
    rw [List.eq_replicate_iff]
    refine ⟨?_, fun c hc => ?_⟩
    · rw [List.length_drop, f3]
      unfold lenN
      omega
    · obtain ⟨h1, h2⟩ := f1 c hc
      apply UInt8.toNat_inj.1
      have := padB_toNat p h1 hv.2.2.1
      omega
  unfold textOf
  rw [hletters, hul, ← hpads, List.take_append_drop]

/-- What is decoded is well formed, or letters alone without padding, or has something behind the group of the first padding. -/
theorem dec32_ok {a : List UInt8} {p : Int} (hv : validP 5 a p) (hc : CleanA a p) (s : List UInt8) (hs : 0 ≤ p ∨ ∀ c ∈ s, c.toNat ≠ 255) (h : (dec32 a p s).2 = none) : fineB 5 a p (strip s) = true ∨ (p < 0 ∧ lettersIn a (strip s) = (strip s).length) ∨ behB p (strip s) = true :=
  oct_ok hv.2.1 hv.2.2.1 _ (clean_pad hv hc) (strip s).length (strip s) (Nat.le_refl _) (fun hp c hm => by
    rcases hs with hs | hs
    · omega
    · exact hs c (List.mem_filter.1 (by unfold strip at hm; exact hm)).1) h

theorem text5_take {a : List UInt8} (p : Int) (l : List UInt8) (k : Nat) (h : 5 * k ≤ l.length) : (textOf 5 a p l).take (8 * k) = textOf 5 a p (l.take (5 * k)) := by
  have hl : (l.take (5 * k)).length = 5 * k := by simp; omega
  have e := textOf5_append a p (l.take (5 * k)) (l.drop (5 * k)) (by rw [hl]; omega)
  rw [List.take_append_drop] at e
  have ht : (textOf 5 a p (l.take (5 * k))).length = 8 * k := by
    rw [textOf_length5, hl]
    unfold lenN padN
    rw [show grpN 5 = 8 from rfl]
    unfold charsN
    split <;> omega
  rw [e, List.take_append_of_le_length (by omega), List.take_of_length_le (by omega)]

end Go.Proofs.Ytanebcdhjkpnjaa
