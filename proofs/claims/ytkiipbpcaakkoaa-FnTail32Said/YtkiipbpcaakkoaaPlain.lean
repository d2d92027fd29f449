/-
  Plain definitions of what the reference computes, with their first facts; no program in sight. Conditions: none.
-/
import Derived.Below
namespace Go.Proofs.Ytkiipbpcaakkoaa

/-- The place of a number among bytes; -1 if it is not there. -/
def idx (l : List UInt8) (b : Int) : Int :=
  match l.findIdx? (fun c => (c.toNat : Int) == b) with
  | some i => (i : Int)
  | none => -1

theorem idx_hit (l : List UInt8) (b : Int) (k : Nat) (hk : k < l.length) (h : ((l[k]'hk).toNat : Int) = b) (hn : ∀ j, (hj : j < l.length) → j < k → ((l[j]'hj).toNat : Int) ≠ b) : idx l b = (k : Int) := by
  have : l.findIdx? (fun c => (c.toNat : Int) == b) = some k := by
    rw [List.findIdx?_eq_some_iff_getElem]
    refine ⟨hk, by simpa using h, fun j hj => ?_⟩
    simpa using hn j (by omega) hj
  simp [idx, this]

theorem idx_miss (l : List UInt8) (b : Int) (hn : ∀ j, (hj : j < l.length) → ((l[j]'hj).toNat : Int) ≠ b) : idx l b = -1 := by
  have : l.findIdx? (fun c => (c.toNat : Int) == b) = none := by
    rw [List.findIdx?_eq_none_iff]
    intro x hx
    obtain ⟨j, hj, rfl⟩ := List.getElem_of_mem hx
    simpa using hn j hj
  simp [idx, this]

theorem idx_range (l : List UInt8) (b : Int) : -1 ≤ idx l b ∧ idx l b < l.length := by
  unfold idx
  cases h : l.findIdx? (fun c => (c.toNat : Int) == b) with
  | none => simp only; omega
  | some i =>
    have := (List.findIdx?_eq_some_iff_getElem.1 h).1
    simp only; omega

/-- What 'Valid' asks of an alphabet of 2 ^ bits letters and a padding. -/
def validP (bits : Nat) (a : List UInt8) (p : Int) : Prop :=
  a.length = 2 ^ bits ∧ -1 ≤ p ∧ p ≤ 255 ∧ p ≠ 13 ∧ p ≠ 10 ∧
    ∀ i, (h : i < a.length) → (a[i]'h).toNat ≠ 13 ∧ (a[i]'h).toNat ≠ 10 ∧ (a[i]'h).toNat ≠ 61 ∧ ((a[i]'h).toNat : Int) ≠ p ∧ idx a ((a[i]'h).toNat : Int) = (i : Int)

instance (bits : Nat) (a : List UInt8) (p : Int) : Decidable (validP bits a p) := by unfold validP; infer_instance

def validB (bits : Nat) (a : List UInt8) (p : Int) : Bool := decide (validP bits a p)

theorem validB_true {bits : Nat} {a : List UInt8} {p : Int} (h : validB bits a p = true) : validP bits a p := of_decide_eq_true h
theorem validB_of {bits : Nat} {a : List UInt8} {p : Int} (h : validP bits a p) : validB bits a p = true := decide_eq_true h
theorem validB_not {bits : Nat} {a : List UInt8} {p : Int} (h : ¬ validP bits a p) : validB bits a p = false := decide_eq_false h

end Go.Proofs.Ytkiipbpcaakkoaa
