/-
  The contract of the laws' function clean32, and of Decode32 on texts that are taken and refused. Conditions: strings fit an int; the alphabet and the padding are valid.
-/
import Derived.Test.YtkiipbpcaakkoaaO32S
import Derived.Test.YtkiipbpcaakkoaaOctV
namespace Go.Proofs.Ytkiipbpcaakkoaa
open Go.RowKit
set_option linter.unusedVariables false

/-- There is padding, or no byte 255 in an alphabet and a text. -/
def cleanB (p : Int) (a s : List UInt8) : Bool := decide (0 ≤ p) || (decide (idx a 255 < 0) && decide (idx s 255 < 0))

theorem cleanB_a {p : Int} {a s : List UInt8} (h : cleanB p a s = true) : CleanA a p := by
  unfold cleanB at h
  simp only [Bool.or_eq_true, Bool.and_eq_true, decide_eq_true_eq] at h
  rcases h with h | h
  · exact Or.inl h
  · exact Or.inr h.1
theorem cleanB_s {p : Int} {a s : List UInt8} (h : cleanB p a s = true) : 0 ≤ p ∨ idx s 255 < 0 := by
  unfold cleanB at h
  simp only [Bool.or_eq_true, Bool.and_eq_true, decide_eq_true_eq] at h
  rcases h with h | h
  · exact Or.inl h
  · exact Or.inr h.2
theorem cleanB_b {p : Int} {a : List UInt8} {s : List UInt8} (h : cleanB p a s = true) : 0 ≤ p ∨ ∀ c ∈ s, c.toNat ≠ 255 := by
  rcases cleanB_s h with h | h
  · exact Or.inl h
  · refine Or.inr (fun c hc e => ?_)
    obtain ⟨j, hj, rfl⟩ := List.getElem_of_mem hc
    have h1 : 0 ≤ idx s 255 := by
      unfold idx
      cases hf : s.findIdx? (fun c => (c.toNat : Int) == 255) with
      | none =>
        rw [List.findIdx?_eq_none_iff] at hf
        have := hf _ hc
        simp at this
        omega
      | some i => simp
    omega

set_option maxHeartbeats 400000 in
theorem clean32_any (p : Int) (a s : ByteArray) (w : World) (ha : a.size ≤ maxLen) (hs : s.size ≤ maxLen) :
    Calls Try.prog 8 #[.int .i64 p, .string a, .string s] w fun e w' => e = .returned (.bool (cleanB p a.data.toList s.data.toList)) ∧ w = w' := by
  have HA := Lib.hid ha
  have HS := Lib.hid hs
  clear ha hs
  by_cases hp : 0 ≤ p
  · go_enter Try.func8, Try.ntmps8
    go_wp2
    go_ret
    exact ⟨ret_bool (by unfold cleanB; simp [hp]), rfl⟩
  · have hpd : decide (0 ≤ p) = false := by simpa using hp
    have HC : Hid (cleanB p a.data.toList s.data.toList = (decide (idx a.data.toList 255 < 0) && decide (idx s.data.toList 255 < 0))) := by show _ = _; unfold cleanB; rw [hpd, Bool.false_or]
    by_cases h1 : idx a.data.toList 255 < 0
    · have h1d : decide (idx a.data.toList 255 < 0) = true := by simpa using h1
      go_enter Try.func8, Try.ntmps8
      go_wp2_with fail
      refine (index_any a 255 _ HA.out).mono ?_
      rintro e w1 ⟨rfl, rfl⟩
      go_wp2_with fail
      refine (index_any s 255 _ HS.out).mono ?_
      rintro e w1 ⟨rfl, rfl⟩
      go_wp2
      go_ret
      exact ⟨ret_bool (by rw [HC.out, h1d, Bool.true_and]), rfl⟩
    · have h1d : decide (idx a.data.toList 255 < 0) = false := by simpa using h1
      go_enter Try.func8, Try.ntmps8
      go_wp2_with fail
      refine (index_any a 255 _ HA.out).mono ?_
      rintro e w1 ⟨rfl, rfl⟩
      go_wp2
      go_ret
      exact ⟨ret_bool (by rw [HC.out, h1d, Bool.false_and]), rfl⟩

theorem decode32_ok (s : ByteArray) (p : Int) (t : ByteArray) (l : List UInt8) (w : World) (hv : validP 5 s.data.toList p) (ht : t.size ≤ 281474976710656) (h : dec32 s.data.toList p t.data.toList = (l, none)) :
    Calls Try.prog 12 #[.string s, .int .i64 p, .string t] w (DecOk l w) := by
  have := decode32I s p t w hv ht
  rw [h] at this
  exact this
theorem decode32_no (s : ByteArray) (p : Int) (t : ByteArray) (l : List UInt8) (n : Int) (w : World) (hv : validP 5 s.data.toList p) (ht : t.size ≤ 281474976710656) (h : dec32 s.data.toList p t.data.toList = (l, some n)) :
    Calls Try.prog 12 #[.string s, .int .i64 p, .string t] w (DecNo l n w) := by
  have := decode32I s p t w hv ht
  rw [h] at this
  exact this
theorem decode32_okW (s : ByteArray) (p : Int) (t : ByteArray) (l : List UInt8) (w : World) (hv : validP 5 s.data.toList p) (ht : t.size ≤ 1125899906842624) (h : dec32 s.data.toList p t.data.toList = (l, none)) :
    Calls Try.prog 12 #[.string s, .int .i64 p, .string t] w (DecOk l w) := by
  have := decode32W s p t w hv ht
  rw [h] at this
  exact this
theorem decode32_noW (s : ByteArray) (p : Int) (t : ByteArray) (l : List UInt8) (n : Int) (w : World) (hv : validP 5 s.data.toList p) (ht : t.size ≤ 1125899906842624) (h : dec32 s.data.toList p t.data.toList = (l, some n)) :
    Calls Try.prog 12 #[.string s, .int .i64 p, .string t] w (DecNo l n w) := by
  have := decode32W s p t w hv ht
  rw [h] at this
  exact this

end Go.Proofs.Ytkiipbpcaakkoaa
