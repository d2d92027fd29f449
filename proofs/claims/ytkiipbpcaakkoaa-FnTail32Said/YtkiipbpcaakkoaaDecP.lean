/-
  What base64's decoder computes, in plain words: a quantum of up to four letters, then the quanta one after the other; bytes and the number of the error. No program in sight. Conditions: none.
-/
import Derived.Test.YtkiipbpcaakkoaaText
namespace Go.Proofs.Ytkiipbpcaakkoaa

/-- Is a byte in the alphabet? -/
def isL (a : List UInt8) (c : UInt8) : Bool := decide (0 ≤ idx a (c.toNat : Int))
/-- The number of a letter. -/
def numL (a : List UInt8) (c : UInt8) : Nat := (idx a (c.toNat : Int)).toNat
/-- Is a byte a new line? -/
def isNL (c : UInt8) : Bool := c.toNat == 10 || c.toNat == 13

/-- New lines skipped, with the place where one then is. -/
def skipNL : List UInt8 → Nat → List UInt8 × Nat
  | c :: r, n => if isNL c then skipNL r (n + 1) else (c :: r, n)
  | [], n => ([], n)

/-- The end of a quantum: nothing, an error, or letters (with an error of what stands behind the padding). -/
inductive Quant where
  | none (si : Nat)
  | bad (si : Nat) (at_ : Int)
  | got (si : Nat) (v : List Nat) (err : Option Int)

/-- What stands behind the padding. -/
def quantTail (v : List Nat) (r : List UInt8) (si : Nat) : Quant :=
  match skipNL r si with
  | ([], si') => .got si' v none
  | (_ :: _, si') => .got si' v (some (si' : Int))

/-- What a padding in a quantum with two or more letters makes; n is the length of the whole source. -/
def quantPad (p : Int) (n : Nat) (v : List Nat) (r : List UInt8) (si : Nat) : Quant :=
  if v.length = 2 then
    match skipNL r si with
    | ([], si') => .bad si' (n : Int)
    | (d :: r', si') => if (d.toNat : Int) = p then quantTail v r' (si' + 1) else .bad si' ((si' : Int) - 1)
  else quantTail v r si

/-- A quantum: the numbers v have been read. -/
def quant (a : List UInt8) (p : Int) (n : Nat) : List Nat → List UInt8 → Nat → Quant
  | v, [], si => if v.length = 0 then .none si else if v.length = 1 ∨ p ≠ -1 then .bad si ((si : Int) - (v.length : Int)) else .got si v none
  | v, c :: r, si =>
    if isL a c then (if v.length = 3 then .got (si + 1) (v ++ [numL a c]) none else quant a p n (v ++ [numL a c]) r (si + 1))
    else if isNL c then quant a p n v r (si + 1)
    else if (c.toNat : Int) ≠ p then .bad (si + 1) (si : Int)
    else if v.length < 2 then .bad (si + 1) (si : Int)
    else quantPad p n v r (si + 1)

/-- The bytes of the numbers of one quantum. -/
def bytesOf : List Nat → List UInt8
  | [a, b, c, d] => [UInt8.ofNat (a * 4 + b / 16), UInt8.ofNat (b % 16 * 16 + c / 4), UInt8.ofNat (c % 4 * 64 + d)]
  | [a, b, c] => [UInt8.ofNat (a * 4 + b / 16), UInt8.ofNat (b % 16 * 16 + c / 4)]
  | [a, b] => [UInt8.ofNat (a * 4 + b / 16)]
  | _ => []
/-- The unused bits of one quantum. -/
def unusedOf : List Nat → Nat
  | [_, _, c] => c % 4
  | [_, b] => b % 16
  | _ => 0

/-- What decodeQuantum returns: the next place, the bytes, the error. -/
def quantRes (st : Bool) : Quant → Nat × List UInt8 × Option Int
  | .none si => (si, [], none)
  | .bad si e => (si, [], some e)
  | .got si v err => if st = true ∧ unusedOf v ≠ 0 then (si, [], some ((si : Int) - (4 - (v.length : Int)))) else (si, bytesOf v, err)

def quantAt (a : List UInt8) (p : Int) (st : Bool) (src : List UInt8) (si : Nat) : Nat × List UInt8 × Option Int := quantRes st (quant a p src.length [] (src.drop si) si)

/-- What Decode returns from a place on. -/
def decFrom (a : List UInt8) (p : Int) (st : Bool) (src : List UInt8) (si : Nat) : List UInt8 × Option Int :=
  if si < src.length then
    match (quantAt a p st src si).2.2 with
    | some e => ((quantAt a p st src si).2.1, some e)
    | none => if si < (quantAt a p st src si).1 then ((quantAt a p st src si).2.1 ++ (decFrom a p st src (quantAt a p st src si).1).1, (decFrom a p st src (quantAt a p st src si).1).2) else ([], none)
  else ([], none)
termination_by src.length - si
decreasing_by all_goals omega

def decOf (a : List UInt8) (p : Int) (st : Bool) (src : List UInt8) : List UInt8 × Option Int := decFrom a p st src 0

theorem skipNL_le : ∀ (r : List UInt8) (n : Nat), (skipNL r n).2 + (skipNL r n).1.length = n + r.length
  | [], n => rfl
  | c :: r, n => by
    unfold skipNL
    split
    · have := skipNL_le r (n + 1)
      simp only [List.length_cons]
      omega
    · rfl
theorem skipNL_ge (r : List UInt8) (n : Nat) : n ≤ (skipNL r n).2 ∧ (skipNL r n).2 ≤ n + r.length := by
  induction r generalizing n with
  | nil => simp [skipNL]
  | cons c r ih =>
    unfold skipNL
    split
    · have := ih (n + 1)
      simp only [List.length_cons]
      omega
    · simp

def Quant.si : Quant → Nat
  | .none si => si
  | .bad si _ => si
  | .got si _ _ => si
theorem quantRes_si (st : Bool) (q : Quant) : (quantRes st q).1 = q.si := by
  cases q with
  | none si => rfl
  | bad si e => rfl
  | got si v err => simp only [quantRes]; split <;> rfl

theorem quantTail_si (v : List Nat) (r : List UInt8) (si : Nat) : si ≤ (quantTail v r si).si ∧ (quantTail v r si).si ≤ si + r.length := by
  have h := skipNL_ge r si
  unfold quantTail
  split <;> rename_i e <;> rw [e] at h <;> exact h
theorem quantPad_si (p : Int) (n : Nat) (v : List Nat) (r : List UInt8) (si : Nat) : si ≤ (quantPad p n v r si).si ∧ (quantPad p n v r si).si ≤ si + r.length := by
  have h := skipNL_ge r si
  have h2 := skipNL_le r si
  unfold quantPad
  split
  · split <;> rename_i e <;> rw [e] at h h2
    · exact h
    · split
      · rename_i d r' si' _
        have := quantTail_si v r' (si' + 1)
        simp only [List.length_cons] at h2
        omega
      · exact h
  · exact quantTail_si v r si
theorem quant_si (a : List UInt8) (p : Int) (n : Nat) : ∀ (r : List UInt8) (v : List Nat) (si : Nat), si + (if r = [] then 0 else 1) ≤ (quant a p n v r si).si ∧ (quant a p n v r si).si ≤ si + r.length
  | [], v, si => by
    rw [if_pos rfl]
    unfold quant
    split
    · simp [Quant.si]
    · split <;> simp [Quant.si]
  | c :: r, v, si => by
    have ih := fun v => quant_si a p n r v (si + 1)
    have ih' : ∀ v, si + 1 ≤ (quant a p n v r (si + 1)).si ∧ (quant a p n v r (si + 1)).si ≤ si + 1 + r.length := fun v => ⟨Nat.le_trans (Nat.le_add_right _ _) (ih v).1, (ih v).2⟩
    have hp := quantPad_si p n v r (si + 1)
    rw [if_neg (by simp)]
    simp only [List.length_cons]
    unfold quant
    split
    · split
      · simp only [Quant.si]; omega
      · have := ih' (v ++ [numL a c]); omega
    · split
      · have := ih' v; omega
      · split
        · simp only [Quant.si]; omega
        · split
          · simp only [Quant.si]; omega
          · omega

theorem quantAt_si (a : List UInt8) (p : Int) (st : Bool) (src : List UInt8) (si : Nat) (h : si < src.length) : si < (quantAt a p st src si).1 ∧ (quantAt a p st src si).1 ≤ src.length := by
  unfold quantAt
  rw [quantRes_si]
  have h1 := quant_si a p src.length (src.drop si) [] si
  have hne : src.drop si ≠ [] := by intro e; have := congrArg List.length e; simp at this; omega
  rw [if_neg hne] at h1
  have : (src.drop si).length = src.length - si := by simp
  omega

/-- One step of Decode. -/
theorem decFrom_end (a : List UInt8) (p : Int) (st : Bool) (src : List UInt8) (si : Nat) (h : src.length ≤ si) : decFrom a p st src si = ([], none) := by
  rw [decFrom, if_neg (by omega)]
theorem decFrom_bad (a : List UInt8) (p : Int) (st : Bool) (src : List UInt8) (si : Nat) (h : si < src.length) (e : Int) (he : (quantAt a p st src si).2.2 = some e) : decFrom a p st src si = ((quantAt a p st src si).2.1, some e) := by
  rw [decFrom, if_pos h]
  simp only [he]
theorem decFrom_step (a : List UInt8) (p : Int) (st : Bool) (src : List UInt8) (si : Nat) (h : si < src.length) (he : (quantAt a p st src si).2.2 = none) :
    decFrom a p st src si = ((quantAt a p st src si).2.1 ++ (decFrom a p st src (quantAt a p st src si).1).1, (decFrom a p st src (quantAt a p st src si).1).2) := by
  rw [decFrom, if_pos h]
  simp only [he]
  rw [if_pos (quantAt_si a p st src si h).1]

theorem drop_cons {α : Type} (l : List α) (k : Nat) (x : α) (h : l[k]? = some x) : l.drop k = x :: l.drop (k + 1) := by
  obtain ⟨hk, e⟩ := List.getElem?_eq_some_iff.1 h
  rw [List.drop_eq_getElem_cons hk, e]

/-- Four letters are a quantum. -/
theorem quant_four (a : List UInt8) (p : Int) (n : Nat) (c0 c1 c2 c3 : UInt8) (r : List UInt8) (si : Nat) (h0 : isL a c0 = true) (h1 : isL a c1 = true) (h2 : isL a c2 = true) (h3 : isL a c3 = true) :
    quant a p n [] (c0 :: c1 :: c2 :: c3 :: r) si = .got (si + 4) [numL a c0, numL a c1, numL a c2, numL a c3] none := by
  simp [quant, h0, h1, h2, h3]
theorem quantAt_four (a : List UInt8) (p : Int) (st : Bool) (src : List UInt8) (si : Nat) (c0 c1 c2 c3 : UInt8) (e0 : src[si]? = some c0) (e1 : src[si + 1]? = some c1) (e2 : src[si + 2]? = some c2) (e3 : src[si + 3]? = some c3)
    (h0 : isL a c0 = true) (h1 : isL a c1 = true) (h2 : isL a c2 = true) (h3 : isL a c3 = true) :
    quantAt a p st src si = (si + 4, bytesOf [numL a c0, numL a c1, numL a c2, numL a c3], none) := by
  unfold quantAt
  rw [drop_cons _ _ _ e0, drop_cons _ _ _ e1, drop_cons _ _ _ e2, drop_cons _ _ _ e3, quant_four a p _ _ _ _ _ _ _ h0 h1 h2 h3]
  simp [quantRes, unusedOf]
theorem decFrom_four (a : List UInt8) (p : Int) (st : Bool) (src : List UInt8) (si : Nat) (c0 c1 c2 c3 : UInt8) (e0 : src[si]? = some c0) (e1 : src[si + 1]? = some c1) (e2 : src[si + 2]? = some c2) (e3 : src[si + 3]? = some c3)
    (h0 : isL a c0 = true) (h1 : isL a c1 = true) (h2 : isL a c2 = true) (h3 : isL a c3 = true) :
    decFrom a p st src si = (bytesOf [numL a c0, numL a c1, numL a c2, numL a c3] ++ (decFrom a p st src (si + 4)).1, (decFrom a p st src (si + 4)).2) := by
  have hq := quantAt_four a p st src si c0 c1 c2 c3 e0 e1 e2 e3 h0 h1 h2 h3
  have hlt : si < src.length := (List.getElem?_eq_some_iff.1 e0).1
  have := decFrom_step a p st src si hlt (by rw [hq])
  rw [hq] at this
  exact this

end Go.Proofs.Ytkiipbpcaakkoaa
