/-
  That base32's decoder takes well formed texts, to their bytes, and which others it refuses; lengths; a foreign byte among letters. No program in sight. Conditions: the alphabet and the padding are valid; without padding no letter is the byte 255.
-/
import Derived.Test.YtkiipbpcaakkoaaDecU
import Derived.Test.YtkiipbpcaakkoaaOctP
import Derived.Test.YtkiipbpcaakkoaaBits5
namespace Go.Proofs.Ytkiipbpcaakkoaa
set_option linter.unusedVariables false

/-- Letters are read one after the other. -/
theorem oct_letters (a : List UInt8) (p : Int) (n : Nat) (hpl : ∀ c, isL a c = true → (c.toNat : Int) ≠ padOf p) : ∀ (x : List UInt8) (v : List Nat) (r : List UInt8), (∀ c ∈ x, isL a c = true) → v.length + x.length ≤ 7 → oct a p n v (x ++ r) = oct a p n (v ++ x.map (numL a)) r
  | [], v, r, _, _ => by simp
  | c :: x, v, r, h, hl => by
    have hc := h c (by simp)
    simp only [List.length_cons] at hl
    rw [List.cons_append, oct, if_neg (fun h => hpl c hc h.1), if_pos hc, if_neg (by omega), oct_letters a p n hpl x (v ++ [numL a c]) r (fun d hd => h d (by simp [hd])) (by simp; omega)]
    simp
theorem oct_eight (a : List UInt8) (p : Int) (n : Nat) (hpl : ∀ c, isL a c = true → (c.toNat : Int) ≠ padOf p) (x : List UInt8) (r : List UInt8) (h : ∀ c ∈ x, isL a c = true) (hl : x.length = 8) : oct a p n [] (x ++ r) = .got (x.map (numL a)) r false := by
  obtain ⟨y, c, rfl⟩ : ∃ y c, x = y ++ [c] := ⟨x.dropLast, x.getLast (by intro e; rw [e] at hl; simp at hl), (List.dropLast_concat_getLast _).symm⟩
  have hy : y.length = 7 := by simp at hl; omega
  have hc := h c (by simp)
  rw [List.append_assoc, oct_letters a p n hpl y [] _ (fun d hd => h d (by simp [hd])) (by simp; omega), List.nil_append, List.singleton_append, oct, if_neg (fun h => hpl c hc h.1), if_pos hc, if_pos (by simpa using hy)]
  simp

theorem lettersIn_append (a : List UInt8) : ∀ (x r : List UInt8), (∀ c ∈ x, isL a c = true) → lettersIn a (x ++ r) = x.length + lettersIn a r
  | [], r, _ => by simp
  | c :: x, r, h => by
    rw [List.cons_append, lettersIn_pos (h c (by simp)), lettersIn_append a x r (fun d hd => h d (by simp [hd])), List.length_cons]
    omega
theorem numsOf_append (a : List UInt8) : ∀ (x r : List UInt8), (∀ c ∈ x, isL a c = true) → numsOf a (x ++ r) = x.map (numL a) ++ numsOf a r
  | [], r, _ => by simp
  | c :: x, r, h => by
    rw [List.cons_append, numsOf_pos (h c (by simp)), numsOf_append a x r (fun d hd => h d (by simp [hd]))]
    rfl
/-- A text is letters and then nothing or another byte. -/
theorem letters_split (a t : List UInt8) : ∃ x u, t = x ++ u ∧ x.length = lettersIn a t ∧ (∀ c ∈ x, isL a c = true) ∧ (u = [] ∨ ∃ c r, u = c :: r ∧ isL a c = false) := by
  induction t with
  | nil => exact ⟨[], [], rfl, rfl, by simp, Or.inl rfl⟩
  | cons c t ih =>
    cases hc : isL a c with
    | false => exact ⟨[], c :: t, rfl, by rw [lettersIn_neg hc]; rfl, by simp, Or.inr ⟨c, t, rfl, hc⟩⟩
    | true =>
      obtain ⟨x, u, h1, h2, h3, h4⟩ := ih
      refine ⟨c :: x, u, by rw [h1]; rfl, by rw [lettersIn_pos hc, List.length_cons, h2], ?_, h4⟩
      intro d hd
      rcases List.mem_cons.1 hd with rfl | hd
      · exact hc
      · exact h3 d hd

theorem fineB5_eight {a : List UInt8} (p : Int) (x t : List UInt8) (h : ∀ c ∈ x, isL a c = true) (hl : x.length = 8) : fineB 5 a p (x ++ t) = fineB 5 a p t := by
  unfold fineB
  rw [lettersIn_append a x t h, hl]
  have e1 : (8 + lettersIn a t) * 5 / 8 = lettersIn a t * 5 / 8 + 5 := by omega
  rw [e1, lenN5_step, charsN5_step]
  have e2 : ((charsN 5 (lettersIn a t * 5 / 8) + 8 == 8 + lettersIn a t) : Bool) = (charsN 5 (lettersIn a t * 5 / 8) == lettersIn a t) := by rw [Bool.eq_iff_iff]; simp; omega
  have e3 : (((x ++ t).length == lenN 5 p (lettersIn a t * 5 / 8) + 8) : Bool) = (t.length == lenN 5 p (lettersIn a t * 5 / 8)) := by rw [Bool.eq_iff_iff]; simp; omega
  have e4 : (x ++ t).drop (8 + lettersIn a t) = t.drop (lettersIn a t) := by rw [← hl, List.drop_append, List.drop_eq_nil_of_le (by omega), List.nil_append, Nat.add_sub_cancel_left]
  rw [e2, e3, e4]

theorem octDec_eight {a : List UInt8} (p : Int) (n : Nat) (hpl : ∀ c, isL a c = true → (c.toNat : Int) ≠ padOf p) (x t : List UInt8) (h : ∀ c ∈ x, isL a c = true) (hl : x.length = 8) :
    octDec a p n (x ++ t) = (octBytes (x.map (numL a)) ++ (octDec a p n t).1, (octDec a p n t).2) :=
  octDec_step a p n (x ++ t) (by intro e; rw [List.append_eq_nil_iff] at e; rw [e.1] at hl; simp at hl) _ t (oct_eight a p n hpl x t h hl)

theorem unfive_eight (x : List Nat) (t : List Nat) (hl : x.length = 8) : unfive (x ++ t) = octBytes x ++ unfive t := by
  match x, hl with
  | [_, _, _, _, _, _, _, _], _ => rfl
theorem octBytes_is (x : List Nat) (hl : x.length = 0 ∨ x.length = 2 ∨ x.length = 4 ∨ x.length = 5 ∨ x.length = 7) : octBytes x = unfive x := by
  match x, hl with
  | [], _ => rfl
  | [_], h => simp at h
  | [_, _], _ => rfl
  | [_, _, _], h => simp at h
  | [_, _, _, _], _ => rfl
  | [_, _, _, _, _], _ => rfl
  | [_, _, _, _, _, _], h => simp at h
  | [_, _, _, _, _, _, _], _ => rfl
  | _ :: _ :: _ :: _ :: _ :: _ :: _ :: _ :: _, h => simp at h

theorem charsN5_small : charsN 5 0 = 0 ∧ charsN 5 1 = 2 ∧ charsN 5 2 = 4 ∧ charsN 5 3 = 5 ∧ charsN 5 4 = 7 := ⟨rfl, rfl, rfl, rfl, rfl⟩
theorem lenN5_small (p : Int) (b : Nat) (h1 : 1 ≤ b) (h2 : b ≤ 4) : lenN 5 p b = if p < 0 then charsN 5 b else 8 := by
  unfold lenN padN
  rw [show grpN 5 = 8 from rfl]
  rcases (by omega : b = 1 ∨ b = 2 ∨ b = 3 ∨ b = 4) with rfl | rfl | rfl | rfl <;> split <;> simp [charsN]
theorem lenN5_zero (p : Int) : lenN 5 p 0 = 0 := by
  unfold lenN padN
  rw [show grpN 5 = 8 from rfl, show charsN 5 0 = 0 from rfl]
  split <;> simp

theorem octPad_good (p : Int) (n : Nat) (v : List Nat) (r : List UInt8) (hv : v.length = 2 ∨ v.length = 4 ∨ v.length = 5 ∨ v.length = 7) (hr : r.length + v.length = 7) (h : ∀ c ∈ r, (c.toNat : Int) = padOf p) : octPad p n v r = .got v r true := by
  unfold octPad
  rw [if_neg (by omega)]
  have : (r.take (7 - v.length)).findIdx? (fun c => (c.toNat : Int) != padOf p) = none := by
    rw [List.findIdx?_eq_none_iff]
    intro c hc
    have := h c (List.mem_of_mem_take hc)
    simp [this]
  rw [this]
  simp only
  rw [if_neg (by omega)]
theorem octPad_none {p : Int} {n : Nat} {v : List Nat} {r : List UInt8} {v' : List Nat} {u : List UInt8} {fin : Bool} (hv : v.length ≤ 7) (h : octPad p n v r = .got v' u fin) : v' = v ∧ u = r ∧ fin = true ∧ 7 ≤ r.length + v.length ∧ (v.length ≠ 1 ∧ v.length ≠ 3 ∧ v.length ≠ 6) ∧ ∀ c ∈ r.take (7 - v.length), (c.toNat : Int) = padOf p := by
  unfold octPad at h
  split at h
  · cases h
  · split at h
    · cases h
    · rename_i h1 h2
      split at h
      · cases h
      · rename_i h3
        simp only [Oct.got.injEq] at h
        obtain ⟨rfl, rfl, rfl⟩ := h
        refine ⟨rfl, rfl, rfl, by omega, ⟨fun e => h3 (Or.inl e), fun e => h3 (Or.inr (Or.inl e)), fun e => h3 (Or.inr (Or.inr e))⟩, fun c hc => ?_⟩
        have := (List.findIdx?_eq_none_iff.1 h2) c hc
        simpa using this

theorem padOf_nat {p : Int} (h0 : 0 ≤ p) (h1 : p ≤ 255) : padOf p = p := by unfold padOf; omega

/-- A well formed text is decoded to its bytes. -/
theorem oct_fine {a : List UInt8} {p : Int} (hp1 : -1 ≤ p) (hp2 : p ≤ 255) (n : Nat) (hpl : ∀ c, isL a c = true → (c.toNat : Int) ≠ padOf p) : ∀ (m : Nat) (t : List UInt8), t.length ≤ m → fineB 5 a p t = true → octDec a p n t = (unfive (numsOf a t), none) := by
  intro m
  induction m with
  | zero =>
    intro t ht _
    obtain rfl : t = [] := List.eq_nil_of_length_eq_zero (by omega)
    rw [octDec_nil]; rfl
  | succ m ih =>
    intro t ht hf
    obtain ⟨x, u, rfl, hx, hl, hu⟩ := letters_split a t
    rcases Nat.lt_or_ge x.length 8 with h8 | h8
    · obtain ⟨f1, f2, f3⟩ := fineB_parts hf
      have hL : lettersIn a (x ++ u) = x.length := hx.symm
      rw [hL] at f1 f2 f3
      rw [List.drop_left] at f1
      have hj : x.length = 0 ∨ x.length = 2 ∨ x.length = 4 ∨ x.length = 5 ∨ x.length = 7 := by unfold charsN at f2; omega
      have hnu : numsOf a u = [] := by
        rcases hu with rfl | ⟨c, r, rfl, hc⟩
        · rfl
        · exact numsOf_neg hc r
      have hnums : numsOf a (x ++ u) = x.map (numL a) := by rw [numsOf_append a x u hl, hnu, List.append_nil]
      rw [hnums, ← octBytes_is _ (by simpa using hj)]
      rcases hj with h0 | hj
      · obtain rfl : x = [] := List.eq_nil_of_length_eq_zero h0
        rw [List.nil_append] at f3 ⊢
        rw [List.length_nil, Nat.zero_mul, Nat.zero_div, lenN5_zero] at f3
        obtain rfl : u = [] := List.eq_nil_of_length_eq_zero f3
        rw [octDec_nil]; rfl
      · have hne : x ++ u ≠ [] := by intro e; have := congrArg List.length e; simp at this; rw [this.1] at hj; simp at hj
        have hb : 1 ≤ x.length * 5 / 8 ∧ x.length * 5 / 8 ≤ 4 := by omega
        rw [lenN5_small p _ hb.1 hb.2, f2, List.length_append] at f3
        rcases Int.lt_or_le p 0 with hp | hp
        · rw [if_pos hp] at f3
          obtain rfl : u = [] := List.eq_nil_of_length_eq_zero (by omega)
          refine octDec_fin a p n (x ++ []) hne _ [] ?_
          rw [oct_letters a p n hpl x [] [] hl (by simp; omega), oct, if_neg (by omega)]
          rfl
        · rw [if_neg (by omega)] at f3
          match u, hu, f1, f3 with
          | [], _, _, f3 => simp at f3; omega
          | c :: r, _, f1, f3 =>
            simp only [List.length_cons] at f3
            have hpo := padOf_nat hp hp2
            refine octDec_fin a p n (x ++ c :: r) hne _ r ?_
            rw [oct_letters a p n hpl x [] _ hl (by simp; omega), oct, if_pos ⟨by rw [hpo]; exact (f1 c (by simp)).2, by simp; omega, by omega⟩]
            refine octPad_good p n _ r ?_ (by simp; omega) (fun d hd => by rw [hpo]; exact (f1 d (by simp [hd])).2)
            simp only [List.nil_append, List.length_map]
            exact hj
    · have hs : x = x.take 8 ++ x.drop 8 := (List.take_append_drop 8 x).symm
      have hl8 : (x.take 8).length = 8 := by simp; omega
      have hll : ∀ c ∈ x.take 8, isL a c = true := fun c hc => hl c (List.mem_of_mem_take hc)
      rw [hs, List.append_assoc] at hf ⊢
      rw [fineB5_eight p _ _ hll hl8] at hf
      rw [octDec_eight p n hpl _ _ hll hl8, numsOf_append a _ _ hll, unfive_eight _ _ (by simpa using hl8), ih (x.drop 8 ++ u) (by simp only [List.length_append] at ht; simp; omega) hf]

/-- Does something stand behind the group of the first padding? -/
def behB (p : Int) (t : List UInt8) : Bool := decide (0 ≤ p) && (decide (0 ≤ idx t p) && decide ((idx t p / 8 + 1) * 8 < (t.length : Int)))

theorem idx_append_not (x u : List UInt8) (p : Int) (h : ∀ c ∈ x, (c.toNat : Int) ≠ p) : idx (x ++ u) p = if 0 ≤ idx u p then (x.length : Int) + idx u p else -1 := by
  unfold idx
  rw [List.findIdx?_append]
  have : x.findIdx? (fun c => (c.toNat : Int) == p) = none := by
    rw [List.findIdx?_eq_none_iff]
    intro c hc
    simpa using h c hc
  rw [this]
  cases hu : u.findIdx? (fun c => (c.toNat : Int) == p) with
  | none => simp
  | some i => simp; omega
theorem idx_cons_hit (c : UInt8) (r : List UInt8) (p : Int) (h : (c.toNat : Int) = p) : idx (c :: r) p = 0 := by
  have := idx_hit (c :: r) p 0 (by simp) (by simpa using h) (by intro j _ hj; omega)
  simpa using this

theorem behB_eight (p : Int) (x t : List UInt8) (hl : x.length = 8) (h : ∀ c ∈ x, (c.toNat : Int) ≠ p) : behB p (x ++ t) = behB p t := by
  unfold behB
  rw [idx_append_not x t p h, hl, List.length_append, hl]
  have hr := idx_range t p
  by_cases hi : 0 ≤ idx t p
  · rw [if_pos hi]
    have e : ((8 : Nat) : Int) + idx t p = idx t p + 8 := by omega
    rw [e]
    congr 2
    · simp [hi]; omega
    · rw [decide_eq_decide]; omega
  · rw [if_neg hi]
    simp [hi]

/-- What is decoded is well formed, or letters alone without padding, or has something behind the group of the first padding. -/
theorem oct_ok {a : List UInt8} {p : Int} (hp1 : -1 ≤ p) (hp2 : p ≤ 255) (n : Nat) (hpl : ∀ c, isL a c = true → (c.toNat : Int) ≠ padOf p) : ∀ (m : Nat) (t : List UInt8), t.length ≤ m → (p = -1 → ∀ c ∈ t, c.toNat ≠ 255) → (octDec a p n t).2 = none → fineB 5 a p t = true ∨ (p < 0 ∧ lettersIn a t = t.length) ∨ behB p t = true := by
  intro m
  induction m with
  | zero =>
    intro t ht _ _
    obtain rfl : t = [] := List.eq_nil_of_length_eq_zero (by omega)
    exact Or.inl (fineB_true (by simp [lettersIn_nil]) (by rw [lettersIn_nil]; rfl) (by rw [lettersIn_nil]; exact (lenN5_zero p).symm))
  | succ m ih =>
    intro t ht hcl hok
    obtain ⟨x, u, rfl, hx, hl, hu⟩ := letters_split a t
    have hL : lettersIn a (x ++ u) = x.length := hx.symm
    rcases Nat.lt_or_ge x.length 8 with h8 | h8
    · rcases hu with rfl | ⟨c, r, rfl, hc⟩
      · rcases Int.lt_or_le p 0 with hp | hp
        · exact Or.inr (Or.inl ⟨hp, by rw [hL]; simp⟩)
        · rw [List.append_nil] at hok hL ⊢
          rcases Nat.eq_zero_or_pos x.length with h0 | h0
          · obtain rfl : x = [] := List.eq_nil_of_length_eq_zero h0
            exact Or.inl (fineB_true (by simp [lettersIn_nil]) (by rw [lettersIn_nil]; rfl) (by rw [lettersIn_nil]; exact (lenN5_zero p).symm))
          · exfalso
            have h1 := oct_letters a p n hpl x [] [] hl (by simp; omega)
            rw [List.append_nil, oct, if_pos (by omega)] at h1
            rw [octDec_bad a p n x (by intro e; rw [e] at h0; simp at h0) _ h1] at hok
            cases hok
      · have hne : x ++ c :: r ≠ [] := by simp
        have h1 := oct_letters a p n hpl x [] (c :: r) hl (by simp; omega)
        rw [oct] at h1
        by_cases hpad : (c.toNat : Int) = padOf p ∧ 2 ≤ ([] ++ x.map (numL a)).length ∧ r.length < 8
        · rw [if_pos hpad] at h1
          cases hq : octPad p n ([] ++ x.map (numL a)) r with
          | bad e =>
            exfalso
            rw [hq] at h1
            rw [octDec_bad a p n _ hne _ h1] at hok
            cases hok
          | got v' u' fin =>
            obtain ⟨g1, g2, g3, g4, g5, g6⟩ := octPad_none (by simp; omega) hq
            simp only [List.nil_append, List.length_map] at g4 g5 g6 hpad
            have hp0 : 0 ≤ p := by
              rcases Int.lt_or_le p 0 with hp | hp
              · exfalso
                have e : p = -1 := by omega
                have h2 := hcl e c (by simp)
                have h3 := hpad.1
                rw [e] at h3
                unfold padOf at h3
                omega
              · exact hp
            have hpo := padOf_nat hp0 hp2
            rw [hpo] at g6 hpad
            rcases Nat.lt_or_ge 8 (x ++ c :: r).length with hlen | hlen
            · refine Or.inr (Or.inr ?_)
              have hxp : ∀ d ∈ x, (d.toNat : Int) ≠ p := fun d hd => by have := hpl d (hl d hd); rw [hpo] at this; exact this
              unfold behB
              rw [idx_append_not x _ p hxp, idx_cons_hit c r p hpad.1]
              simp [hp0]
              simp only [List.length_append, List.length_cons] at hlen
              omega
            · refine Or.inl ?_
              simp only [List.length_append, List.length_cons] at hlen
              have hr : r.length = 7 - x.length := by omega
              have hj : x.length = 2 ∨ x.length = 4 ∨ x.length = 5 ∨ x.length = 7 := by omega
              have hb : 1 ≤ x.length * 5 / 8 ∧ x.length * 5 / 8 ≤ 4 := by omega
              have hch : charsN 5 (x.length * 5 / 8) = x.length := by rcases hj with h | h | h | h <;> rw [h] <;> rfl
              refine fineB_true ?_ (by rw [hL]; exact hch) ?_
              · rw [hL, List.drop_left]
                intro d hd
                refine ⟨hp0, ?_⟩
                rcases List.mem_cons.1 hd with rfl | hd
                · exact hpad.1
                · refine g6 d ?_
                  rw [List.take_of_length_le (by omega)]
                  exact hd
              · rw [hL, lenN5_small p _ hb.1 hb.2, if_neg (by omega), List.length_append, List.length_cons]
                omega
        · exfalso
          rw [if_neg hpad, if_neg (by rw [hc]; simp)] at h1
          rw [octDec_bad a p n _ hne _ h1] at hok
          cases hok
    · have hs : x = x.take 8 ++ x.drop 8 := (List.take_append_drop 8 x).symm
      have hl8 : (x.take 8).length = 8 := by simp; omega
      have hll : ∀ c ∈ x.take 8, isL a c = true := fun c hc => hl c (List.mem_of_mem_take hc)
      rw [hs, List.append_assoc] at hok hcl ⊢
      rw [octDec_eight p n hpl _ _ hll hl8] at hok
      rw [fineB5_eight p _ _ hll hl8, lettersIn_append a _ _ hll]
      rcases ih (x.drop 8 ++ u) (by simp only [List.length_append] at ht; simp; omega) (fun e c hc => hcl e c (by rw [List.mem_append]; exact Or.inr hc)) hok with h | ⟨h, h'⟩ | h
      · exact Or.inl h
      · refine Or.inr (Or.inl ⟨h, ?_⟩)
        rw [h']
        simp
      · refine Or.inr (Or.inr ?_)
        rcases Int.lt_or_le p 0 with hp | hp
        · unfold behB at h
          rw [decide_eq_false (by omega : ¬ 0 ≤ p)] at h
          simp at h
        · rw [behB_eight p _ _ hl8 (fun c hc => ?_)]
          · exact h
          · have := hpl c (hll c hc)
            rw [padOf_nat hp hp2] at this
            exact this

/-! ### Lengths -/
def roomN5 (p : Int) (n : Nat) : Nat := if p = -1 then n / 8 * 5 + n % 8 * 5 / 8 else n / 8 * 5
def roomC5 (n : Nat) : Nat := n / 8 * 5 + n % 8 * 5 / 8
theorem roomC5_mono (m n : Nat) (h : m ≤ n) : roomC5 m ≤ roomC5 n := by unfold roomC5; omega

theorem octBytes_length (v : List Nat) (h : v.length ≤ 8) : (octBytes v).length ≤ v.length * 5 / 8 := by
  match v, h with
  | [], _ => simp [octBytes]
  | [_], _ => simp [octBytes]
  | [_, _], _ => simp [octBytes]
  | [_, _, _], _ => simp [octBytes]
  | [_, _, _, _], _ => simp [octBytes]
  | [_, _, _, _, _], _ => simp [octBytes]
  | [_, _, _, _, _, _], _ => simp [octBytes]
  | [_, _, _, _, _, _, _], _ => simp [octBytes]
  | [_, _, _, _, _, _, _, _], _ => simp [octBytes]
  | _ :: _ :: _ :: _ :: _ :: _ :: _ :: _ :: _ :: _, h => simp at h

/-- Facts on the letters of a quantum. -/
theorem oct_got (a : List UInt8) (p : Int) (n : Nat) : ∀ (r : List UInt8) (v v' : List Nat) (u : List UInt8) (fin : Bool), v.length ≤ 7 → oct a p n v r = .got v' u fin → v.length ≤ v'.length ∧ v'.length ≤ 8 ∧ v'.length - v.length + u.length ≤ r.length ∧ v'.length - v.length + u.countP (isL a) ≤ r.countP (isL a) ∧ (p ≠ -1 → 8 - v.length ≤ r.length)
  | [], v, v', u, fin, hv, h => by
    unfold oct at h
    split at h
    · cases h
    · rename_i hp
      simp only [Oct.got.injEq] at h
      obtain ⟨rfl, rfl, rfl⟩ := h
      refine ⟨Nat.le_refl _, by omega, by simp, by simp, fun h => absurd h hp⟩
  | c :: r, v, v', u, fin, hv, h => by
    unfold oct at h
    split at h
    · rename_i hpad
      obtain ⟨rfl, rfl, _, g4, _, _⟩ := octPad_none hv h
      refine ⟨Nat.le_refl _, by omega, by simp, ?_, fun _ => by simp only [List.length_cons]; omega⟩
      rw [Nat.sub_self, Nat.zero_add]
      exact List.Sublist.countP_le (List.sublist_cons_self c u)
    · split at h
      · rename_i hc
        split at h
        · simp only [Oct.got.injEq] at h
          obtain ⟨rfl, rfl, rfl⟩ := h
          rw [List.countP_cons_of_pos hc]
          simp only [List.length_append, List.length_cons, List.length_nil]
          omega
        · obtain ⟨g1, g2, g3, g4, g5⟩ := oct_got a p n r (v ++ [numL a c]) v' u fin (by simp; omega) h
          rw [List.countP_cons_of_pos hc]
          simp only [List.length_append, List.length_cons, List.length_nil] at *
          refine ⟨by omega, by omega, by omega, by omega, fun hp => by have := g5 hp; omega⟩
      · cases h

theorem oct_room (a : List UInt8) (p : Int) (n : Nat) : ∀ (m : Nat) (t : List UInt8), t.length ≤ m → (octDec a p n t).1.length ≤ roomN5 p t.length ∧ (octDec a p n t).1.length ≤ roomC5 (t.countP (isL a)) := by
  intro m
  induction m with
  | zero =>
    intro t ht
    obtain rfl : t = [] := List.eq_nil_of_length_eq_zero (by omega)
    rw [octDec_nil]; simp
  | succ m ih =>
    intro t ht
    rcases Nat.eq_zero_or_pos t.length with h0 | h0
    · obtain rfl : t = [] := List.eq_nil_of_length_eq_zero h0
      rw [octDec_nil]; simp
    · have hne : t ≠ [] := by intro e; rw [e] at h0; simp at h0
      cases hq : oct a p n [] t with
      | bad e => rw [octDec_bad a p n t hne e hq]; simp
      | got v u fin =>
        obtain ⟨g1, g2, g3, g4, g5⟩ := oct_got a p n t [] v u fin (by simp) hq
        simp only [List.length_nil, Nat.sub_zero] at g3 g4 g5
        have hb := octBytes_length v g2
        cases fin with
        | true =>
          rw [octDec_fin a p n t hne v u hq]
          simp only
          refine ⟨?_, ?_⟩
          · unfold roomN5
            split
            · omega
            · have := g5 (by assumption); omega
          · unfold roomC5; omega
        | false =>
          have hl := (oct_len a p n t [] v u false hq)
          have h8 := (hl.2 (by simp)).2 rfl
          obtain ⟨i1, i2⟩ := ih u (by omega)
          rw [octDec_step a p n t hne v u hq]
          simp only [List.length_append]
          rw [h8] at hb g3 g4
          refine ⟨?_, ?_⟩
          · unfold roomN5 at *
            by_cases hp : p = -1
            · rw [if_pos hp] at *; omega
            · rw [if_neg hp] at *; omega
          · unfold roomC5 at *; omega

/-! ### A foreign byte among letters -/
theorem octDec_foreign (a : List UInt8) (p : Int) (n : Nat) (hpl : ∀ c, isL a c = true → (c.toNat : Int) ≠ padOf p) (b : UInt8) (hb : isL a b = false) : ∀ (q : Nat) (x r : List UInt8), x.length / 8 = q → (∀ c ∈ x, isL a c = true) → ((b.toNat : Int) ≠ padOf p ∨ 8 ≤ r.length ∨ x.length % 8 < 2) → octDec a p n (x ++ b :: r) = (unfive ((x.take (8 * (x.length / 8))).map (numL a)), some ((n : Int) - (r.length : Int) - 1)) := by
  intro q
  induction q with
  | zero =>
    intro x r hq hl hbp
    have hx : x.length < 8 := by omega
    have h1 := oct_letters a p n hpl x [] (b :: r) hl (by simp; omega)
    rw [oct, if_neg (by simp only [List.nil_append, List.length_map]; omega), if_neg (by rw [hb]; simp)] at h1
    rw [octDec_bad a p n _ (by simp) _ h1, hq]
    simp [unfive]
  | succ q ih =>
    intro x r hq hl hbp
    have hs : x = x.take 8 ++ x.drop 8 := (List.take_append_drop 8 x).symm
    have hl8 : (x.take 8).length = 8 := by simp; omega
    have hll : ∀ c ∈ x.take 8, isL a c = true := fun c hc => hl c (List.mem_of_mem_take hc)
    have hd : (x.drop 8).length = x.length - 8 := by simp
    have hi := ih (x.drop 8) r (by rw [hd]; omega) (fun c hc => hl c (List.mem_of_mem_drop hc)) (by rw [hd]; omega)
    have e : x.take (8 * (x.length / 8)) = x.take 8 ++ (x.drop 8).take (8 * ((x.drop 8).length / 8)) := by
      conv => lhs; rw [show 8 * (x.length / 8) = 8 + 8 * ((x.drop 8).length / 8) by rw [hd]; omega, List.take_add]
    rw [e, List.map_append, unfive_eight _ _ (by simpa using hl8)]
    conv => lhs; rw [hs, List.append_assoc, octDec_eight p n hpl _ _ hll hl8, hi]

theorem unfive_take : ∀ (k : Nat) (ns : List Nat), 8 * k ≤ ns.length → unfive (ns.take (8 * k)) = (unfive ns).take (5 * k)
  | 0, ns, _ => by simp [unfive]
  | k + 1, ns, h => by
    have hs : ns = ns.take 8 ++ ns.drop 8 := (List.take_append_drop 8 ns).symm
    have hl8 : (ns.take 8).length = 8 := by simp; omega
    have ob : (octBytes (ns.take 8)).length = 5 := by
      generalize ns.take 8 = y at hl8
      match y, hl8 with
      | [_, _, _, _, _, _, _, _], _ => rfl
    have e : ns.take (8 * (k + 1)) = ns.take 8 ++ (ns.drop 8).take (8 * k) := by rw [show 8 * (k + 1) = 8 + 8 * k by omega, List.take_add]
    rw [e, unfive_eight _ _ hl8, unfive_take k (ns.drop 8) (by simp; omega)]
    conv => rhs; rw [hs, unfive_eight _ _ hl8, show 5 * (k + 1) = (octBytes (ns.take 8)).length + 5 * k by rw [ob]; omega, List.take_append, List.take_of_length_le (by omega), Nat.add_sub_cancel_left]

end Go.Proofs.Ytkiipbpcaakkoaa
