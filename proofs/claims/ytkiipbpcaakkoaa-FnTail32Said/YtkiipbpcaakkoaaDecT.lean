/-
  When a text is well formed, in plain words, and that base64's decoder takes just these texts, to their bytes. No program in sight. Conditions: the alphabet and the padding are valid.
-/
import Derived.Test.YtkiipbpcaakkoaaUnsix
import Derived.Test.YtkiipbpcaakkoaaDecS
namespace Go.Proofs.Ytkiipbpcaakkoaa

theorem lettersIn_nil (a : List UInt8) : lettersIn a [] = 0 := rfl
theorem lettersIn_pos {a : List UInt8} {c : UInt8} (h : isL a c = true) (t : List UInt8) : lettersIn a (c :: t) = lettersIn a t + 1 := by
  unfold lettersIn
  rw [List.takeWhile_cons_of_pos (by exact h), List.length_cons]
theorem lettersIn_neg {a : List UInt8} {c : UInt8} (h : isL a c = false) (t : List UInt8) : lettersIn a (c :: t) = 0 := by
  unfold lettersIn
  rw [List.takeWhile_cons_of_neg (by rw [show decide (0 ≤ idx a (c.toNat : Int)) = isL a c from rfl, h]; simp)]
  rfl
theorem lettersIn_le (a t : List UInt8) : lettersIn a t ≤ t.length := by
  unfold lettersIn
  exact List.Sublist.length_le (List.takeWhile_sublist _)

theorem numsOf_nil (a : List UInt8) : numsOf a [] = [] := rfl
theorem numsOf_pos {a : List UInt8} {c : UInt8} (h : isL a c = true) (t : List UInt8) : numsOf a (c :: t) = numL a c :: numsOf a t := by
  unfold numsOf
  rw [lettersIn_pos h]
  rfl
theorem numsOf_neg {a : List UInt8} {c : UInt8} (h : isL a c = false) (t : List UInt8) : numsOf a (c :: t) = [] := by
  unfold numsOf
  rw [lettersIn_neg h]
  rfl
theorem numsOf_length (a t : List UInt8) : (numsOf a t).length = lettersIn a t := by
  unfold numsOf
  have := lettersIn_le a t
  simp
  omega

/-- Is a text without new lines well formed? -/
def fineB (bits : Nat) (a : List UInt8) (p : Int) (t : List UInt8) : Bool :=
  (t.drop (lettersIn a t)).all (fun c => decide (0 ≤ p ∧ (c.toNat : Int) = p)) && (charsN bits (lettersIn a t * bits / 8) == lettersIn a t) && (t.length == lenN bits p (lettersIn a t * bits / 8))

/-- The unused bits behind numbers of six bits. -/
def unS : List Nat → Nat
  | _ :: _ :: _ :: _ :: t => unS t
  | [_, _, c] => c % 4
  | [_, b] => b % 16
  | [a] => a
  | [] => 0

theorem fineB_false_rest {bits : Nat} {a : List UInt8} {p : Int} {t : List UInt8} (c : UInt8) (hc : c ∈ t.drop (lettersIn a t)) (h : ¬ (0 ≤ p ∧ (c.toNat : Int) = p)) : fineB bits a p t = false := by
  rw [Bool.eq_false_iff]
  intro hf
  unfold fineB at hf
  simp only [Bool.and_eq_true, List.all_eq_true, decide_eq_true_eq] at hf
  exact h (hf.1.1 c hc)
theorem fineB_false_whole {bits : Nat} {a : List UInt8} {p : Int} {t : List UInt8} (h : charsN bits (lettersIn a t * bits / 8) ≠ lettersIn a t) : fineB bits a p t = false := by
  unfold fineB
  rw [beq_eq_false_iff_ne.2 h]
  simp
theorem fineB_false_len {bits : Nat} {a : List UInt8} {p : Int} {t : List UInt8} (h : t.length ≠ lenN bits p (lettersIn a t * bits / 8)) : fineB bits a p t = false := by
  unfold fineB
  rw [beq_eq_false_iff_ne.2 h]
  simp
theorem fineB_true {bits : Nat} {a : List UInt8} {p : Int} {t : List UInt8} (h1 : ∀ c ∈ t.drop (lettersIn a t), 0 ≤ p ∧ (c.toNat : Int) = p) (h2 : charsN bits (lettersIn a t * bits / 8) = lettersIn a t) (h3 : t.length = lenN bits p (lettersIn a t * bits / 8)) : fineB bits a p t = true := by
  unfold fineB
  rw [h2, ← h3]
  simp only [beq_self_eq_true, Bool.and_true, List.all_eq_true, decide_eq_true_eq]
  exact h1
theorem fineB_parts {bits : Nat} {a : List UInt8} {p : Int} {t : List UInt8} (h : fineB bits a p t = true) : (∀ c ∈ t.drop (lettersIn a t), 0 ≤ p ∧ (c.toNat : Int) = p) ∧ charsN bits (lettersIn a t * bits / 8) = lettersIn a t ∧ t.length = lenN bits p (lettersIn a t * bits / 8) := by
  unfold fineB at h
  simp only [Bool.and_eq_true, List.all_eq_true, decide_eq_true_eq, beq_iff_eq] at h
  exact ⟨h.1.1, h.1.2, h.2⟩

theorem lenN6_at (p : Int) : lenN 6 p 0 = 0 ∧ (lenN 6 p 1 = if p < 0 then 2 else 4) ∧ (lenN 6 p 2 = if p < 0 then 3 else 4) := by
  unfold lenN padN
  rw [show charsN 6 0 = 0 from rfl, show charsN 6 1 = 2 from rfl, show charsN 6 2 = 3 from rfl, show grpN 6 = 4 from rfl]
  split <;> simp

theorem fineB6_four {a : List UInt8} (p : Int) {c0 c1 c2 c3 : UInt8} (t : List UInt8) (h0 : isL a c0 = true) (h1 : isL a c1 = true) (h2 : isL a c2 = true) (h3 : isL a c3 = true) : fineB 6 a p (c0 :: c1 :: c2 :: c3 :: t) = fineB 6 a p t := by
  unfold fineB
  rw [lettersIn_pos h0, lettersIn_pos h1, lettersIn_pos h2, lettersIn_pos h3]
  have e1 : (lettersIn a t + 1 + 1 + 1 + 1) * 6 / 8 = lettersIn a t * 6 / 8 + 3 := by omega
  rw [e1, lenN6_step, charsN6_step]
  have e2 : ((charsN 6 (lettersIn a t * 6 / 8) + 4 == lettersIn a t + 1 + 1 + 1 + 1) : Bool) = (charsN 6 (lettersIn a t * 6 / 8) == lettersIn a t) := by rw [Bool.eq_iff_iff]; simp
  have e3 : (((c0 :: c1 :: c2 :: c3 :: t).length == lenN 6 p (lettersIn a t * 6 / 8) + 4) : Bool) = (t.length == lenN 6 p (lettersIn a t * 6 / 8)) := by rw [Bool.eq_iff_iff]; simp
  rw [e2, e3]
  rfl

theorem decS_four {a : List UInt8} (p : Int) (st : Bool) {c0 c1 c2 c3 : UInt8} (t : List UInt8) (h0 : isL a c0 = true) (h1 : isL a c1 = true) (h2 : isL a c2 = true) (h3 : isL a c3 = true) :
    decS a p st (c0 :: c1 :: c2 :: c3 :: t) = (bytesOf [numL a c0, numL a c1, numL a c2, numL a c3] ++ (decS a p st t).1, (decS a p st t).2) := by
  have hq : quantS a p [] (c0 :: c1 :: c2 :: c3 :: t) = .got [numL a c0, numL a c1, numL a c2, numL a c3] t := by simp [quantS, h0, h1, h2, h3]
  rw [decS, if_neg (by simp), hq]
  have hu : ¬ (st = true ∧ unusedOf [numL a c0, numL a c1, numL a c2, numL a c3] ≠ 0) := by simp [unusedOf]
  have hl : t.length < (c0 :: c1 :: c2 :: c3 :: t).length := by simp only [List.length_cons]; omega
  simp only [if_neg hu, if_pos hl]

theorem decS_bad {a : List UInt8} {p : Int} {st : Bool} {t : List UInt8} (hne : t ≠ []) (h : quantS a p [] t = .bad) : decS a p st t = ([], false) := by
  rw [decS, if_neg hne, h]
theorem decS_junk {a : List UInt8} {p : Int} {st : Bool} {t : List UInt8} {v : List Nat} (hne : t ≠ []) (h : quantS a p [] t = .junk v) : (decS a p st t).2 = false := by
  rw [decS, if_neg hne, h]
  simp only
  split <;> rfl
theorem decS_last {a : List UInt8} {p : Int} {st : Bool} {t : List UInt8} {v : List Nat} (hne : t ≠ []) (h : quantS a p [] t = .got v []) : decS a p st t = if st = true ∧ unusedOf v ≠ 0 then ([], false) else (bytesOf v, true) := by
  rw [decS, if_neg hne, h]
  simp only
  split
  · rfl
  · rw [if_pos (by have := List.length_pos_iff.2 hne; simpa using this), decS, if_pos rfl]
    simp

/-- What the decoder says of a text without new lines. -/
def SaysS (a : List UInt8) (p : Int) (st : Bool) (t : List UInt8) : Prop :=
  (decS a p st t).2 = (fineB 6 a p t && (!st || unS (numsOf a t) == 0)) ∧ ((decS a p st t).2 = true → (decS a p st t).1 = unsix (numsOf a t))

theorem says_no {a : List UInt8} {p : Int} {st : Bool} {t : List UInt8} (h1 : (decS a p st t).2 = false) (h2 : fineB 6 a p t = false) : SaysS a p st t := by
  refine ⟨by rw [h1, h2]; rfl, fun h => ?_⟩
  rw [h1] at h; cases h
theorem says_last {a : List UInt8} {p : Int} {st : Bool} {t : List UInt8} {v : List Nat} (hne : t ≠ []) (h : quantS a p [] t = .got v []) (hf : fineB 6 a p t = true) (hn : numsOf a t = v) (hu : unS v = unusedOf v) (hb : unsix v = bytesOf v) : SaysS a p st t := by
  have hd := decS_last (st := st) hne h
  unfold SaysS
  rw [hd, hf, hn, hu, hb]
  by_cases hs : st = true ∧ unusedOf v ≠ 0
  · rw [if_pos hs]
    obtain ⟨rfl, h2⟩ := hs
    simp [h2]
  · rw [if_neg hs]
    cases st
    · simp
    · simp at hs
      simp [hs]

theorem decS_spec {a : List UInt8} {p : Int} (st : Bool) (hp : -1 ≤ p) : ∀ (m : Nat) (t : List UInt8), t.length ≤ m → SaysS a p st t := by
  intro m
  induction m with
  | zero =>
    intro t ht
    obtain rfl : t = [] := List.eq_nil_of_length_eq_zero (by omega)
    have hf : fineB 6 a p [] = true := fineB_true (by simp [lettersIn_nil]) (by rw [lettersIn_nil]; rfl) (by rw [lettersIn_nil]; exact (lenN6_at p).1.symm)
    unfold SaysS
    rw [decS, if_pos rfl, hf]
    simp [numsOf_nil, unS, unsix]
  | succ m ih =>
    intro t ht
    match t, ht with
    | [], _ => exact ih [] (by simp)
    | c0 :: t1, ht =>
      cases h0 : isL a c0 with
      | false =>
        refine says_no ?_ (fineB_false_len ?_)
        · rw [decS_bad (by simp) (by unfold quantS; rw [if_neg (by simp [h0])]; split <;> simp)]
        · rw [lettersIn_neg h0, (lenN6_at p).1]; simp
      | true =>
        match t1, ht with
        | [], _ =>
          refine says_no ?_ (fineB_false_whole ?_)
          · rw [decS_bad (by simp) (by simp [quantS, h0])]
          · rw [lettersIn_pos h0, lettersIn_nil]; decide
        | c1 :: t2, ht =>
          cases h1 : isL a c1 with
          | false =>
            refine says_no ?_ (fineB_false_whole ?_)
            · rw [decS_bad (by simp) (by simp [quantS, h0, h1])]
            · rw [lettersIn_pos h0, lettersIn_neg h1]; decide
          | true =>
            match t2, ht with
            | [], _ =>
              by_cases hp1 : p = -1
              · refine says_last (v := [numL a c0, numL a c1]) (by simp) (by simp [quantS, h0, h1, hp1]) (fineB_true ?_ ?_ ?_) ?_ rfl rfl
                · rw [lettersIn_pos h0, lettersIn_pos h1, lettersIn_nil]; simp
                · rw [lettersIn_pos h0, lettersIn_pos h1, lettersIn_nil]; rfl
                · rw [lettersIn_pos h0, lettersIn_pos h1, lettersIn_nil]
                  show 2 = lenN 6 p 1
                  rw [(lenN6_at p).2.1, if_pos (by omega)]
                · rw [numsOf_pos h0, numsOf_pos h1, numsOf_nil]
              · refine says_no ?_ (fineB_false_len ?_)
                · rw [decS_bad (by simp) (by simp [quantS, h0, h1, hp1])]
                · rw [lettersIn_pos h0, lettersIn_pos h1, lettersIn_nil]
                  show 2 ≠ lenN 6 p 1
                  rw [(lenN6_at p).2.1, if_neg (by omega)]; omega
            | c2 :: t3, ht =>
              cases h2 : isL a c2 with
              | false =>
                have hL : lettersIn a (c0 :: c1 :: c2 :: t3) = 2 := by rw [lettersIn_pos h0, lettersIn_pos h1, lettersIn_neg h2]
                have hN : numsOf a (c0 :: c1 :: c2 :: t3) = [numL a c0, numL a c1] := by rw [numsOf_pos h0, numsOf_pos h1, numsOf_neg h2]
                by_cases hc2 : (c2.toNat : Int) = p
                · have hp0 : ¬ p < 0 := by omega
                  match t3 with
                  | [] =>
                    refine says_no ?_ (fineB_false_len ?_)
                    · rw [decS_bad (by simp) (by simp [quantS, h0, h1, h2, hc2, quantPadS])]
                    · rw [hL]
                      show 3 ≠ lenN 6 p 1
                      rw [(lenN6_at p).2.1, if_neg hp0]; omega
                  | d :: u =>
                    by_cases hd : (d.toNat : Int) = p
                    · match u with
                      | [] =>
                        refine says_last (v := [numL a c0, numL a c1]) (by simp) (by simp [quantS, h0, h1, h2, hc2, quantPadS, hd]) (fineB_true ?_ ?_ ?_) hN rfl rfl
                        · rw [hL]
                          intro c hc
                          simp only [List.drop_succ_cons, List.drop_zero, List.mem_cons, List.not_mem_nil, or_false] at hc
                          rcases hc with rfl | rfl
                          · exact ⟨by omega, hc2⟩
                          · exact ⟨by omega, hd⟩
                        · rw [hL]; rfl
                        · rw [hL]
                          show 4 = lenN 6 p 1
                          rw [(lenN6_at p).2.1, if_neg hp0]
                      | x :: y =>
                        refine says_no (decS_junk (v := [numL a c0, numL a c1]) (by simp) (by simp [quantS, h0, h1, h2, hc2, quantPadS, hd])) (fineB_false_len ?_)
                        rw [hL]
                        show (x :: y).length + 4 ≠ lenN 6 p 1
                        rw [(lenN6_at p).2.1, if_neg hp0]; simp
                    · refine says_no ?_ (fineB_false_rest d (by rw [hL]; simp) (fun h => hd h.2))
                      rw [decS_bad (by simp) (by simp [quantS, h0, h1, h2, hc2, quantPadS, hd])]
                · refine says_no ?_ (fineB_false_rest c2 (by rw [hL]; simp) (fun h => hc2 h.2))
                  rw [decS_bad (by simp) (by simp [quantS, h0, h1, h2, hc2])]
              | true =>
                match t3, ht with
                | [], _ =>
                  by_cases hp1 : p = -1
                  · refine says_last (v := [numL a c0, numL a c1, numL a c2]) (by simp) (by simp [quantS, h0, h1, h2, hp1]) (fineB_true ?_ ?_ ?_) ?_ rfl rfl
                    · rw [lettersIn_pos h0, lettersIn_pos h1, lettersIn_pos h2, lettersIn_nil]; simp
                    · rw [lettersIn_pos h0, lettersIn_pos h1, lettersIn_pos h2, lettersIn_nil]; rfl
                    · rw [lettersIn_pos h0, lettersIn_pos h1, lettersIn_pos h2, lettersIn_nil]
                      show 3 = lenN 6 p 2
                      rw [(lenN6_at p).2.2, if_pos (by omega)]
                    · rw [numsOf_pos h0, numsOf_pos h1, numsOf_pos h2, numsOf_nil]
                  · refine says_no ?_ (fineB_false_len ?_)
                    · rw [decS_bad (by simp) (by simp [quantS, h0, h1, h2, hp1])]
                    · rw [lettersIn_pos h0, lettersIn_pos h1, lettersIn_pos h2, lettersIn_nil]
                      show 3 ≠ lenN 6 p 2
                      rw [(lenN6_at p).2.2, if_neg (by omega)]; omega
                | c3 :: t4, ht =>
                  cases h3 : isL a c3 with
                  | false =>
                    have hL : lettersIn a (c0 :: c1 :: c2 :: c3 :: t4) = 3 := by rw [lettersIn_pos h0, lettersIn_pos h1, lettersIn_pos h2, lettersIn_neg h3]
                    have hN : numsOf a (c0 :: c1 :: c2 :: c3 :: t4) = [numL a c0, numL a c1, numL a c2] := by rw [numsOf_pos h0, numsOf_pos h1, numsOf_pos h2, numsOf_neg h3]
                    by_cases hc3 : (c3.toNat : Int) = p
                    · have hp0 : ¬ p < 0 := by omega
                      match t4 with
                      | [] =>
                        refine says_last (v := [numL a c0, numL a c1, numL a c2]) (by simp) (by simp [quantS, h0, h1, h2, h3, hc3, quantPadS]) (fineB_true ?_ ?_ ?_) hN rfl rfl
                        · rw [hL]
                          intro c hc
                          simp only [List.drop_succ_cons, List.drop_zero, List.mem_cons, List.not_mem_nil, or_false] at hc
                          subst hc
                          exact ⟨by omega, hc3⟩
                        · rw [hL]; rfl
                        · rw [hL]
                          show 4 = lenN 6 p 2
                          rw [(lenN6_at p).2.2, if_neg hp0]
                      | d :: u =>
                        refine says_no (decS_junk (v := [numL a c0, numL a c1, numL a c2]) (by simp) (by simp [quantS, h0, h1, h2, h3, hc3, quantPadS])) (fineB_false_len ?_)
                        rw [hL]
                        show (d :: u).length + 4 ≠ lenN 6 p 2
                        rw [(lenN6_at p).2.2, if_neg hp0]; simp
                    · refine says_no ?_ (fineB_false_rest c3 (by rw [hL]; simp) (fun h => hc3 h.2))
                      rw [decS_bad (by simp) (by simp [quantS, h0, h1, h2, h3, hc3])]
                  | true =>
                    have hih := ih t4 (by simp only [List.length_cons] at ht; omega)
                    unfold SaysS at hih ⊢
                    rw [decS_four p st t4 h0 h1 h2 h3, fineB6_four p t4 h0 h1 h2 h3, numsOf_pos h0, numsOf_pos h1, numsOf_pos h2, numsOf_pos h3, unS]
                    refine ⟨hih.1, fun h => ?_⟩
                    simp only at h ⊢
                    rw [hih.2 h]
                    rfl

theorem nl_not {bits : Nat} {a : List UInt8} {p : Int} (hv : validP bits a p) (c : UInt8) (h : isNL c = true) : isL a c = false := by
  unfold isL
  rw [decide_eq_false_iff_not]
  intro hi
  have hr := idx_range a (c.toNat : Int)
  obtain ⟨k, hk⟩ := Int.eq_ofNat_of_zero_le hi
  have hlt : k < a.length := by omega
  have hu := idx_uniq a k hlt _ hk
  have hl := hv.2.2.2.2.2 k hlt
  unfold isNL at h
  simp only [Bool.or_eq_true, beq_iff_eq] at h
  omega
theorem pad_not_letter {bits : Nat} {a : List UInt8} {p : Int} (hv : validP bits a p) (c : UInt8) (h : isL a c = true) : (c.toNat : Int) ≠ p := by
  unfold isL at h
  have hi := of_decide_eq_true h
  have hr := idx_range a (c.toNat : Int)
  obtain ⟨k, hk⟩ := Int.eq_ofNat_of_zero_le hi
  have hlt : k < a.length := by omega
  have hu := idx_uniq a k hlt _ hk
  have hl := hv.2.2.2.2.2 k hlt
  omega

/-- What base64's decoder says of a text: the verdict, and the bytes. -/
theorem decOf_spec {a : List UInt8} {p : Int} (st : Bool) (hv : validP 6 a p) (s : List UInt8) :
    ((decOf a p st s).2 = none ↔ (fineB 6 a p (strip s) && (!st || unS (numsOf a (strip s)) == 0)) = true) ∧ ((decOf a p st s).2 = none → (decOf a p st s).1 = unsix (numsOf a (strip s))) := by
  obtain ⟨h1, h2⟩ := decOf_strip a p st s (nl_not hv)
  obtain ⟨h3, h4⟩ := decS_spec st hv.2.1 (strip s).length (strip s) (Nat.le_refl _)
  refine ⟨by rw [h2, h3], fun h => ?_⟩
  rw [h1]
  exact h4 (h2.1 h)

end Go.Proofs.Ytkiipbpcaakkoaa
