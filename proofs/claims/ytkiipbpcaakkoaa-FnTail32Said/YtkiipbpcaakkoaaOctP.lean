/-
  What base32's decoder computes on a text without new lines, in plain words: a quantum of up to eight letters, then the quanta one after the other; bytes and the number of the error. No program in sight. Conditions: none.
-/
import Derived.Test.YtkiipbpcaakkoaaDecS
namespace Go.Proofs.Ytkiipbpcaakkoaa

/-- The padding's byte; 255 where there is no padding. -/
def padOf (p : Int) : Int := p % 256

/-- The end of a quantum: an error, or letters, with what is left and whether it is the end. -/
inductive Oct where
  | bad (e : Int)
  | got (v : List Nat) (u : List UInt8) (fin : Bool)

/-- What a padding in a quantum makes; n is the length of the whole text. -/
def octPad (p : Int) (n : Nat) (v : List Nat) (r : List UInt8) : Oct :=
  if r.length + v.length < 7 then .bad (n : Int)
  else match (r.take (7 - v.length)).findIdx? (fun c => (c.toNat : Int) != padOf p) with
    | some k => .bad ((n : Int) - (r.length : Int) + (k : Int) - 1)
    | none => if v.length = 1 ∨ v.length = 3 ∨ v.length = 6 then .bad ((n : Int) - (r.length : Int) - 1) else .got v r true

/-- A quantum: the numbers v have been read. -/
def oct (a : List UInt8) (p : Int) (n : Nat) : List Nat → List UInt8 → Oct
  | v, [] => if p ≠ -1 then .bad ((n : Int) - (v.length : Int)) else .got v [] true
  | v, c :: r =>
    if (c.toNat : Int) = padOf p ∧ 2 ≤ v.length ∧ r.length < 8 then octPad p n v r
    else if isL a c then (if v.length = 7 then .got (v ++ [numL a c]) r false else oct a p n (v ++ [numL a c]) r)
    else .bad ((n : Int) - (r.length : Int) - 1)

/-- The bytes of the numbers of one quantum. -/
def octBytes : List Nat → List UInt8
  | [a, b, c, d, e, f, g, h] => [UInt8.ofNat (a * 8 + b / 4), UInt8.ofNat (b % 4 * 64 + c * 2 + d / 16), UInt8.ofNat (d % 16 * 16 + e / 2), UInt8.ofNat (e % 2 * 128 + f * 4 + g / 8), UInt8.ofNat (g % 8 * 32 + h)]
  | [a, b, c, d, e, f, g] => [UInt8.ofNat (a * 8 + b / 4), UInt8.ofNat (b % 4 * 64 + c * 2 + d / 16), UInt8.ofNat (d % 16 * 16 + e / 2), UInt8.ofNat (e % 2 * 128 + f * 4 + g / 8)]
  | [a, b, c, d, e] => [UInt8.ofNat (a * 8 + b / 4), UInt8.ofNat (b % 4 * 64 + c * 2 + d / 16), UInt8.ofNat (d % 16 * 16 + e / 2)]
  | [a, b, c, d] => [UInt8.ofNat (a * 8 + b / 4), UInt8.ofNat (b % 4 * 64 + c * 2 + d / 16)]
  | [a, b] => [UInt8.ofNat (a * 8 + b / 4)]
  | _ => []

theorem oct_len (a : List UInt8) (p : Int) (n : Nat) : ∀ (r : List UInt8) (v v' : List Nat) (u : List UInt8) (fin : Bool), oct a p n v r = .got v' u fin → u.length + (if r = [] then 0 else 1) ≤ r.length ∧ (v.length ≤ 7 → v'.length ≤ 8 ∧ (fin = false → v'.length = 8))
  | [], v, v', u, fin, h => by
    unfold oct at h
    split at h
    · cases h
    · simp only [Oct.got.injEq] at h
      obtain ⟨rfl, rfl, rfl⟩ := h
      simp
      omega
  | c :: r, v, v', u, fin, h => by
    rw [if_neg (by simp)]
    unfold oct at h
    split at h
    · unfold octPad at h
      split at h
      · cases h
      · split at h
        · cases h
        · split at h
          · cases h
          · simp only [Oct.got.injEq] at h
            obtain ⟨rfl, rfl, rfl⟩ := h
            simp
            omega
    · split at h
      · split at h
        · simp only [Oct.got.injEq] at h
          obtain ⟨rfl, rfl, rfl⟩ := h
          simp
          omega
        · rename_i h7
          obtain ⟨h1, h2⟩ := oct_len a p n r (v ++ [numL a c]) v' u fin h
          refine ⟨by simp only [List.length_cons]; omega, fun hv => h2 (by simp; omega)⟩
      · cases h

/-- What base32's decoder returns on what is left of a text of length n. -/
def octDec (a : List UInt8) (p : Int) (n : Nat) (r : List UInt8) : List UInt8 × Option Int :=
  if r = [] then ([], none) else
    match oct a p n [] r with
    | .bad e => ([], some e)
    | .got v u fin => if fin = true then (octBytes v, none) else if u.length < r.length then (octBytes v ++ (octDec a p n u).1, (octDec a p n u).2) else ([], none)
termination_by r.length

/-- What base32's decoder returns on a text. -/
def dec32 (a : List UInt8) (p : Int) (s : List UInt8) : List UInt8 × Option Int := octDec a p (strip s).length (strip s)

theorem octDec_nil (a : List UInt8) (p : Int) (n : Nat) : octDec a p n [] = ([], none) := by rw [octDec, if_pos rfl]
theorem octDec_bad (a : List UInt8) (p : Int) (n : Nat) (r : List UInt8) (hne : r ≠ []) (e : Int) (h : oct a p n [] r = .bad e) : octDec a p n r = ([], some e) := by
  rw [octDec, if_neg hne, h]
theorem octDec_fin (a : List UInt8) (p : Int) (n : Nat) (r : List UInt8) (hne : r ≠ []) (v : List Nat) (u : List UInt8) (h : oct a p n [] r = .got v u true) : octDec a p n r = (octBytes v, none) := by
  rw [octDec, if_neg hne, h]
  rfl
theorem octDec_step (a : List UInt8) (p : Int) (n : Nat) (r : List UInt8) (hne : r ≠ []) (v : List Nat) (u : List UInt8) (h : oct a p n [] r = .got v u false) : octDec a p n r = (octBytes v ++ (octDec a p n u).1, (octDec a p n u).2) := by
  have hl := (oct_len a p n r [] v u false h).1
  rw [if_neg hne] at hl
  rw [octDec, if_neg hne, h]
  have : u.length < r.length := by omega
  simp only [if_pos this]
  rfl

end Go.Proofs.Ytkiipbpcaakkoaa
