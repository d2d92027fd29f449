/-
  The decoder of base64 on a text without new lines, in plain words; new lines change neither the bytes nor the verdict. No program in sight. Conditions: new lines are not in the alphabet.
-/
import Derived.Test.YtkiipbpcaakkoaaDecP
namespace Go.Proofs.Ytkiipbpcaakkoaa

/-- A text without its new lines. -/
def strip (s : List UInt8) : List UInt8 := s.filter fun c => !isNL c

inductive QS where
  | none
  | bad
  | got (v : List Nat) (u : List UInt8)
  | junk (v : List Nat)

/-- What a padding in a quantum makes, on a text without new lines. -/
def quantPadS (p : Int) (v : List Nat) : List UInt8 → QS
  | [] => if v.length = 2 then .bad else .got v []
  | d :: u => if v.length = 2 then (if (d.toNat : Int) = p then (if u = [] then .got v [] else .junk v) else .bad) else .junk v

/-- A quantum on a text without new lines. -/
def quantS (a : List UInt8) (p : Int) : List Nat → List UInt8 → QS
  | v, [] => if v.length = 0 then .none else if v.length = 1 ∨ p ≠ -1 then .bad else .got v []
  | v, c :: r =>
    if isL a c then (if v.length = 3 then .got (v ++ [numL a c]) r else quantS a p (v ++ [numL a c]) r)
    else if (c.toNat : Int) ≠ p then .bad
    else if v.length < 2 then .bad
    else quantPadS p v r

/-- A quantum's end and the same on the text without new lines. -/
def QRel (r : List UInt8) (si : Nat) (q : Quant) : QS → Prop
  | .none => q = .none (si + r.length)
  | .bad => ∃ si' e, q = .bad si' e
  | .got v u => ∃ k, k ≤ r.length ∧ q = .got (si + k) v none ∧ strip (r.drop k) = u
  | .junk v => ∃ si' e, q = .got si' v (some e)

theorem strip_cons_nl {c : UInt8} (h : isNL c = true) (r : List UInt8) : strip (c :: r) = strip r := by simp [strip, h]
theorem strip_cons {c : UInt8} (h : isNL c = false) (r : List UInt8) : strip (c :: r) = c :: strip r := by simp [strip, h]
theorem strip_append (x y : List UInt8) : strip (x ++ y) = strip x ++ strip y := by simp [strip]

theorem skipNL_spec : ∀ (r : List UInt8) (n : Nat), strip (skipNL r n).1 = strip r ∧ (∃ k, k ≤ r.length ∧ (skipNL r n).2 = n + k ∧ (skipNL r n).1 = r.drop k) ∧ (∀ d u, (skipNL r n).1 = d :: u → isNL d = false)
  | [], n => ⟨rfl, ⟨0, by simp, rfl, rfl⟩, by simp [skipNL]⟩
  | c :: r, n => by
    obtain ⟨h1, ⟨k, hk, h2, h3⟩, h4⟩ := skipNL_spec r (n + 1)
    unfold skipNL
    by_cases hc : isNL c = true
    · rw [if_pos hc]
      refine ⟨by rw [h1, strip_cons_nl hc], ⟨k + 1, by simpa using hk, by omega, by simpa using h3⟩, h4⟩
    · rw [if_neg hc]
      refine ⟨rfl, ⟨0, by simp, rfl, rfl⟩, fun d u e => ?_⟩
      simp only [List.cons.injEq] at e
      rw [← e.1]
      simpa using hc

theorem skipNL_nil (r : List UInt8) (n : Nat) (h : strip r = []) : skipNL r n = ([], n + r.length) := by
  obtain ⟨h1, ⟨k, hk, h2, h3⟩, h4⟩ := skipNL_spec r n
  have hz : (skipNL r n).1 = [] := by
    cases hs : (skipNL r n).1 with
    | nil => rfl
    | cons d u =>
      exfalso
      have hd := h4 d u hs
      rw [hs, strip_cons hd, h] at h1
      cases h1
  have := skipNL_le r n
  rw [hz] at this
  simp only [List.length_nil, Nat.add_zero] at this
  exact Prod.ext hz this
theorem skipNL_some (r : List UInt8) (n : Nat) (d : UInt8) (u : List UInt8) (h : strip r = d :: u) : ∃ k, k < r.length ∧ skipNL r n = (r.drop k, n + k) ∧ r.drop k = d :: r.drop (k + 1) ∧ strip (r.drop (k + 1)) = u := by
  obtain ⟨h1, ⟨k, hk, h2, h3⟩, h4⟩ := skipNL_spec r n
  cases hs : (skipNL r n).1 with
  | nil => rw [hs, h] at h1; cases h1
  | cons d' u' =>
    have hd := h4 d' u' hs
    rw [hs, strip_cons hd, h] at h1
    simp only [List.cons.injEq] at h1
    obtain ⟨rfl, h6⟩ := h1
    have e : r.drop k = d' :: u' := by rw [← h3, hs]
    have hlt : k < r.length := by
      rcases Nat.lt_or_ge k r.length with g | g
      · exact g
      · rw [List.drop_eq_nil_of_le g] at e; cases e
    have e2 : u' = r.drop (k + 1) := by
      rw [List.drop_eq_getElem_cons hlt] at e
      simp only [List.cons.injEq] at e
      exact e.2.symm
    refine ⟨k, hlt, Prod.ext h3 h2, by rw [e, e2], by rw [← e2, h6]⟩

theorem quantTail_rel (v : List Nat) (r : List UInt8) (si : Nat) : QRel r si (quantTail v r si) (if strip r = [] then .got v [] else .junk v) := by
  unfold quantTail
  cases h : strip r with
  | nil =>
    rw [skipNL_nil r si h, if_pos rfl]
    exact ⟨r.length, Nat.le_refl _, rfl, by simp [strip]⟩
  | cons d u =>
    obtain ⟨k, hk, e, e2, _⟩ := skipNL_some r si d u h
    rw [e, e2, if_neg (by simp)]
    exact ⟨_, _, rfl⟩

theorem QRel.shift {r : List UInt8} {si j : Nat} {q : Quant} {s : QS} (hj : j ≤ r.length) (h : QRel (r.drop j) (si + j) q s) : QRel r si q s := by
  cases s with
  | none =>
    have e : q = .none (si + j + (r.drop j).length) := h
    show q = _
    rw [e, List.length_drop]
    congr 1
    omega
  | bad => exact h
  | got v u =>
    obtain ⟨k, hk, e, hs⟩ := h
    rw [List.length_drop] at hk
    refine ⟨j + k, by omega, by rw [e, Nat.add_assoc], by rw [← hs, List.drop_drop]⟩
  | junk v => exact h

theorem quantPad_rel (p : Int) (n : Nat) (v : List Nat) (r : List UInt8) (si : Nat) : QRel r si (quantPad p n v r si) (quantPadS p v (strip r)) := by
  unfold quantPad
  by_cases hv : v.length = 2
  · rw [if_pos hv]
    cases h : strip r with
    | nil =>
      rw [skipNL_nil r si h]
      simp only [quantPadS, if_pos hv]
      exact ⟨_, _, rfl⟩
    | cons d u =>
      obtain ⟨k, hk, e, e2, e3⟩ := skipNL_some r si d u h
      rw [e, e2]
      simp only [quantPadS, if_pos hv]
      by_cases hd : (d.toNat : Int) = p
      · rw [if_pos hd, if_pos hd]
        have := quantTail_rel v (r.drop (k + 1)) (si + (k + 1))
        rw [e3] at this
        exact QRel.shift (by omega) this
      · rw [if_neg hd, if_neg hd]
        exact ⟨_, _, rfl⟩
  · rw [if_neg hv]
    have := quantTail_rel v r si
    cases h : strip r with
    | nil => rw [h, if_pos rfl] at this; simp only [quantPadS, if_neg hv]; exact this
    | cons d u => rw [h, if_neg (by simp)] at this; simp only [quantPadS, if_neg hv]; exact this

theorem quant_rel (a : List UInt8) (p : Int) (n : Nat) (hnl : ∀ c, isNL c = true → isL a c = false) : ∀ (r : List UInt8) (v : List Nat) (si : Nat), QRel r si (quant a p n v r si) (quantS a p v (strip r))
  | [], v, si => by
    show QRel [] si (quant a p n v [] si) (quantS a p v [])
    unfold quant quantS
    by_cases h0 : v.length = 0
    · rw [if_pos h0, if_pos h0]; rfl
    · rw [if_neg h0, if_neg h0]
      by_cases h1 : v.length = 1 ∨ p ≠ -1
      · rw [if_pos h1, if_pos h1]; exact ⟨_, _, rfl⟩
      · rw [if_neg h1, if_neg h1]; exact ⟨0, Nat.zero_le _, rfl, rfl⟩
  | c :: r, v, si => by
    have ih := fun v => quant_rel a p n hnl r v (si + 1)
    have up : ∀ (q : Quant) (s : QS), QRel r (si + 1) q s → QRel (c :: r) si q s := fun q s h => QRel.shift (r := c :: r) (j := 1) (by simp) h
    unfold quant
    by_cases hc : isNL c = true
    · rw [strip_cons_nl hc, if_neg (by rw [hnl c hc]; simp), if_pos hc]
      exact up _ _ (ih v)
    · have hc' : isNL c = false := by simpa using hc
      rw [strip_cons hc', quantS]
      by_cases hl : isL a c = true
      · rw [if_pos hl, if_pos hl]
        by_cases h3 : v.length = 3
        · rw [if_pos h3, if_pos h3]
          exact ⟨1, by simp, rfl, rfl⟩
        · rw [if_neg h3, if_neg h3]
          exact up _ _ (ih _)
      · rw [if_neg hl, if_neg hl, if_neg hc]
        by_cases hp : (c.toNat : Int) ≠ p
        · rw [if_pos hp, if_pos hp]; exact ⟨_, _, rfl⟩
        · rw [if_neg hp, if_neg hp]
          by_cases h2 : v.length < 2
          · rw [if_pos h2, if_pos h2]; exact ⟨_, _, rfl⟩
          · rw [if_neg h2, if_neg h2]
            exact up _ _ (quantPad_rel p n v r (si + 1))

theorem quantPadS_len (p : Int) (v : List Nat) (t : List UInt8) (v' : List Nat) (u : List UInt8) (h : quantPadS p v t = .got v' u) : u = [] := by
  cases t with
  | nil => simp only [quantPadS] at h; split at h <;> simp_all
  | cons d t => simp only [quantPadS] at h; split at h <;> (try split at h) <;> (try split at h) <;> simp_all
theorem quantS_len (a : List UInt8) (p : Int) : ∀ (t : List UInt8) (v v' : List Nat) (u : List UInt8), quantS a p v t = .got v' u → u.length + (if t = [] then 0 else 1) ≤ t.length
  | [], v, v', u, h => by
    unfold quantS at h
    split at h
    · cases h
    · split at h
      · cases h
      · simp only [QS.got.injEq] at h
        rw [← h.2]; simp
  | c :: t, v, v', u, h => by
    rw [if_neg (by simp)]
    unfold quantS at h
    split at h
    · split at h
      · simp only [QS.got.injEq] at h
        rw [← h.2]; simp
      · have := quantS_len a p t _ v' u h
        simp only [List.length_cons]
        omega
    · split at h
      · cases h
      · split at h
        · cases h
        · have := quantPadS_len p v t v' u h
          rw [this]; simp

/-- The decoder on a text without new lines: the bytes, and whether there is no error. -/
def decS (a : List UInt8) (p : Int) (st : Bool) (t : List UInt8) : List UInt8 × Bool :=
  if t = [] then ([], true) else
    match quantS a p [] t with
    | .none => ([], true)
    | .bad => ([], false)
    | .got v u => if st = true ∧ unusedOf v ≠ 0 then ([], false) else if u.length < t.length then (bytesOf v ++ (decS a p st u).1, (decS a p st u).2) else ([], true)
    | .junk v => if st = true ∧ unusedOf v ≠ 0 then ([], false) else (bytesOf v, false)
termination_by t.length

theorem quantS_ne (a : List UInt8) (p : Int) : ∀ (t : List UInt8) (v : List Nat), (t ≠ [] ∨ v ≠ []) → quantS a p v t ≠ .none
  | [], v, h, e => by
    unfold quantS at e
    split at e
    · rcases h with h | h
      · exact h rfl
      · exact h (List.eq_nil_of_length_eq_zero (by assumption))
    · split at e <;> cases e
  | c :: t, v, h, e => by
    unfold quantS at e
    split at e
    · split at e
      · cases e
      · exact quantS_ne a p t _ (Or.inr (by simp)) e
    · split at e
      · cases e
      · split at e
        · cases e
        · cases t with
          | nil => simp only [quantPadS] at e; split at e <;> cases e
          | cons d t => simp only [quantPadS] at e; split at e <;> (try split at e) <;> (try split at e) <;> cases e

theorem decFrom_strip (a : List UInt8) (p : Int) (st : Bool) (src : List UInt8) (hnl : ∀ c, isNL c = true → isL a c = false) : ∀ (m si : Nat), src.length - si ≤ m → si ≤ src.length →
    (decFrom a p st src si).1 = (decS a p st (strip (src.drop si))).1 ∧ ((decFrom a p st src si).2 = none ↔ (decS a p st (strip (src.drop si))).2 = true) := by
  intro m
  induction m with
  | zero =>
    intro si h1 h2
    rw [decFrom_end a p st src si (by omega), List.drop_eq_nil_of_le (by omega), show strip [] = [] from rfl, decS, if_pos rfl]
    simp
  | succ m ih =>
    intro si h1 h2
    rcases Nat.lt_or_ge si src.length with hlt | hge
    · have hr := quant_rel a p src.length hnl (src.drop si) [] si
      have hqs := (quantAt_si a p st src si hlt)
      have hq : quantAt a p st src si = quantRes st (quant a p src.length [] (src.drop si) si) := rfl
      cases hs : quantS a p [] (strip (src.drop si)) with
      | none =>
        rw [hs] at hr
        have hr' : quant a p src.length [] (src.drop si) si = .none (si + (src.drop si).length) := hr
        rw [hr'] at hq
        have ht : strip (src.drop si) = [] := by
          rcases Classical.em (strip (src.drop si) = []) with h | h
          · exact h
          · exact absurd hs (quantS_ne a p _ _ (Or.inl h))
        rw [decFrom_step a p st src si hlt (by rw [hq]; rfl), hq]
        rw [decFrom_end a p st src _ (by simp [quantRes]; omega), ht, decS, if_pos rfl]
        simp [quantRes]
      | bad =>
        rw [hs] at hr
        obtain ⟨si', e, hr'⟩ := hr
        rw [hr'] at hq
        have ht : strip (src.drop si) ≠ [] := fun h => by rw [h] at hs; simp [quantS] at hs
        rw [decFrom_bad a p st src si hlt e (by rw [hq]; rfl), hq, decS, if_neg ht, hs]
        simp [quantRes]
      | junk v =>
        rw [hs] at hr
        obtain ⟨si', e, hr'⟩ := hr
        rw [hr'] at hq
        have ht : strip (src.drop si) ≠ [] := fun h => by rw [h] at hs; simp [quantS] at hs
        rw [decS, if_neg ht, hs]
        by_cases hst : st = true ∧ unusedOf v ≠ 0
        · simp only [quantRes, if_pos hst] at hq
          rw [decFrom_bad a p st src si hlt _ (by rw [hq]), hq]
          simp only [if_pos hst]
          simp
        · simp only [quantRes, if_neg hst] at hq
          rw [decFrom_bad a p st src si hlt _ (by rw [hq]), hq]
          simp only [if_neg hst]
          simp
      | got v u =>
        rw [hs] at hr
        obtain ⟨k, hk, hr', hu⟩ := hr
        rw [hr'] at hq
        have ht : strip (src.drop si) ≠ [] := fun h => by rw [h] at hs; simp [quantS] at hs
        rw [decS, if_neg ht, hs]
        by_cases hst : st = true ∧ unusedOf v ≠ 0
        · simp only [quantRes, if_pos hst] at hq
          rw [decFrom_bad a p st src si hlt _ (by rw [hq]), hq]
          simp only [if_pos hst]
          simp
        · simp only [quantRes, if_neg hst] at hq
          have hlen := quantS_len a p _ _ _ _ hs
          rw [if_neg ht] at hlen
          rw [decFrom_step a p st src si hlt (by rw [hq]), hq]
          simp only [if_neg hst, if_pos (by omega : u.length < (strip (src.drop si)).length)]
          rw [hq] at hqs
          simp only at hqs
          obtain ⟨h3, h4⟩ := ih (si + k) (by omega) (by omega)
          rw [List.drop_drop] at hu
          rw [hu] at h3 h4
          exact ⟨by rw [h3], h4⟩
    · rw [decFrom_end a p st src si hge, List.drop_eq_nil_of_le hge, show strip [] = [] from rfl, decS, if_pos rfl]
      simp

theorem decOf_strip (a : List UInt8) (p : Int) (st : Bool) (src : List UInt8) (hnl : ∀ c, isNL c = true → isL a c = false) :
    (decOf a p st src).1 = (decS a p st (strip src)).1 ∧ ((decOf a p st src).2 = none ↔ (decS a p st (strip src)).2 = true) := by
  have := decFrom_strip a p st src hnl src.length 0 (by omega) (by omega)
  rw [List.drop_zero] at this
  exact this

end Go.Proofs.Ytkiipbpcaakkoaa
