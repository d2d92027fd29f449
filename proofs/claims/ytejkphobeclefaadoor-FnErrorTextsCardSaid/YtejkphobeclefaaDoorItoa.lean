/-
  Different numbers have different decimal numerals. No program in sight. Conditions: none.
-/
import Derived.Lib.ItoaMem
namespace Go.Proofs.YtejkphobeclefaaDoor

/-- The number that some digits tell. -/
def dval (l : List UInt8) : Nat := l.foldl (fun a c => a * 10 + (c.toNat - 48)) 0

theorem dval_snoc (l : List UInt8) (c : UInt8) : dval (l ++ [c]) = dval l * 10 + (c.toNat - 48) := by simp [dval]

theorem dval_digits : ∀ (m u : Nat), u ≤ m → dval (Lib.decDigits u) = u ∧ ∀ c ∈ Lib.decDigits u, 48 ≤ c.toNat := by
  intro m
  induction m with
  | zero =>
    intro u hu
    obtain rfl : u = 0 := by omega
    rw [Lib.decDigits_one (by omega)]
    exact ⟨rfl, fun c hc => by simp at hc; subst hc; decide⟩
  | succ m ih =>
    intro u hu
    by_cases h : u < 10
    · rw [Lib.decDigits_one h]
      have e : (UInt8.ofNat (48 + u)).toNat = 48 + u := UInt8.toNat_ofNat_of_lt' (by show _ < 256; omega)
      refine ⟨?_, fun c hc => ?_⟩
      · simp only [dval, List.foldl_cons, List.foldl_nil, e]; omega
      · simp only [List.mem_singleton] at hc; rw [hc, e]; omega
    · obtain ⟨i1, i2⟩ := ih (u / 10) (by omega)
      have e : (UInt8.ofNat (48 + u % 10)).toNat = 48 + u % 10 := UInt8.toNat_ofNat_of_lt' (by show _ < 256; omega)
      rw [Lib.decDigits, dif_neg h]
      refine ⟨?_, fun c hc => ?_⟩
      · rw [dval_snoc, i1, e]; omega
      · rcases List.mem_append.1 hc with hc | hc
        · exact i2 c hc
        · simp only [List.mem_singleton] at hc; rw [hc, e]; omega

theorem digits_inj {u v : Nat} (h : Lib.decDigits u = Lib.decDigits v) : u = v := by
  have h1 := (dval_digits u u (Nat.le_refl _)).1
  have h2 := (dval_digits v v (Nat.le_refl _)).1
  rw [h] at h1
  omega

theorem itoa_inj {a b : Int} (h : Lib.itoa a = Lib.itoa b) : a = b := by
  unfold Lib.itoa at h
  by_cases ha : a < 0
  · by_cases hb : b < 0
    · rw [if_pos ha, if_pos hb] at h
      have := digits_inj (List.cons.inj h).2
      omega
    · rw [if_pos ha, if_neg hb] at h
      have := (dval_digits b.toNat b.toNat (Nat.le_refl _)).2 45 (by rw [← h]; simp)
      exact absurd this (by decide)
  · by_cases hb : b < 0
    · rw [if_neg ha, if_pos hb] at h
      have := (dval_digits a.toNat a.toNat (Nat.le_refl _)).2 45 (by rw [h]; simp)
      exact absurd this (by decide)
    · rw [if_neg ha, if_neg hb] at h
      have := digits_inj h
      omega

end Go.Proofs.YtejkphobeclefaaDoor
