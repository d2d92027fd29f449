/-
  The contract of the laws' function clean32, of Decode32 on texts that are taken and refused, and the walks of the laws Newlines32 and Fits32. Conditions: strings and slices hold at most 1048576 bytes for the first law, 2 ^ 47 - 4096 bytes for the second one.
-/
import Derived.Test.YtanebcdhjkpnjaaSpecE
import Derived.Test.YtanebcdhjkpnjaaLens
import Derived.Test.YtanebcdhjkpnjaaO32S
import Derived.Test.YtanebcdhjkpnjaaOctV
import Derived.Deep.RegionWith
import Derived.BigRegion
namespace Go.Proofs.Ytanebcdhjkpnjaa
open Go.RowKit
set_option linter.unusedVariables false

/-- There is padding, or no byte 255 in an alphabet and a text. -/
def cleanB (p : Int) (a s : List UInt8) : Bool := decide (0 ≤ p) || (decide (idx a 255 < 0) && decide (idx s 255 < 0))

theorem cleanB_a {p : Int} {a s : List UInt8} (h : cleanB p a s = true) : CleanA a p := by
  unfold cleanB at h
  simp only [Bool.or_eq_true, Bool.and_eq_true, decide_eq_true_eq] at h
  rcases h with h | h
  · exact Or.inl h
  · exact Or.inr h.1
theorem cleanB_s {p : Int} {a s : List UInt8} (h : cleanB p a s = true) : 0 ≤ p ∨ idx s 255 < 0 := by
  unfold cleanB at h
  simp only [Bool.or_eq_true, Bool.and_eq_true, decide_eq_true_eq] at h
  rcases h with h | h
  · exact Or.inl h
  · exact Or.inr h.2
theorem cleanB_b {p : Int} {a : List UInt8} {s : List UInt8} (h : cleanB p a s = true) : 0 ≤ p ∨ ∀ c ∈ s, c.toNat ≠ 255 := by
  rcases cleanB_s h with h | h
  · exact Or.inl h
  · refine Or.inr (fun c hc e => ?_)
    obtain ⟨j, hj, rfl⟩ := List.getElem_of_mem hc
    have h1 : 0 ≤ idx s 255 := by
      unfold idx
      cases hf : s.findIdx? (fun c => (c.toNat : Int) == 255) with
      | none =>
        rw [List.findIdx?_eq_none_iff] at hf
        have := hf _ hc
        simp at this
        omega
      | some i => simp
    omega

set_option maxHeartbeats 400000 in
theorem clean32_any (p : Int) (a s : ByteArray) (w : World) (ha : a.size ≤ maxLen) (hs : s.size ≤ maxLen) :
    Calls Try.prog 12 #[.int .i64 p, .string a, .string s] w fun e w' => e = .returned (.bool (cleanB p a.data.toList s.data.toList)) ∧ w = w' := by
  have HA := Lib.hid ha
  have HS := Lib.hid hs
  clear ha hs
  by_cases hp : 0 ≤ p
  · go_enter Try.func12, Try.ntmps12
    go_wp2
    go_ret
    exact ⟨ret_bool (by unfold cleanB; simp [hp]), rfl⟩
  · have hpd : decide (0 ≤ p) = false := by simpa using hp
    have HC : Hid (cleanB p a.data.toList s.data.toList = (decide (idx a.data.toList 255 < 0) && decide (idx s.data.toList 255 < 0))) := by show _ = _; unfold cleanB; rw [hpd, Bool.false_or]
    by_cases h1 : idx a.data.toList 255 < 0
    · have h1d : decide (idx a.data.toList 255 < 0) = true := by simpa using h1
      go_enter Try.func12, Try.ntmps12
      go_wp2_with fail
      refine (index_any a 255 _ HA.out).mono ?_
      rintro e w1 ⟨rfl, rfl⟩
      go_wp2_with fail
      refine (index_any s 255 _ HS.out).mono ?_
      rintro e w1 ⟨rfl, rfl⟩
      go_wp2
      go_ret
      exact ⟨ret_bool (by rw [HC.out, h1d, Bool.true_and]), rfl⟩
    · have h1d : decide (idx a.data.toList 255 < 0) = false := by simpa using h1
      go_enter Try.func12, Try.ntmps12
      go_wp2_with fail
      refine (index_any a 255 _ HA.out).mono ?_
      rintro e w1 ⟨rfl, rfl⟩
      go_wp2
      go_ret
      exact ⟨ret_bool (by rw [HC.out, h1d, Bool.false_and]), rfl⟩

theorem decode32_ok (s : ByteArray) (p : Int) (t : ByteArray) (l : List UInt8) (w : World) (hv : validP 5 s.data.toList p) (ht : t.size ≤ 281474976710656) (h : dec32 s.data.toList p t.data.toList = (l, none)) :
    Calls Try.prog 17 #[.string s, .int .i64 p, .string t] w (DecOk l w) := by
  have := decode32I s p t w hv ht
  rw [h] at this
  exact this
theorem decode32_no (s : ByteArray) (p : Int) (t : ByteArray) (l : List UInt8) (n : Int) (w : World) (hv : validP 5 s.data.toList p) (ht : t.size ≤ 281474976710656) (h : dec32 s.data.toList p t.data.toList = (l, some n)) :
    Calls Try.prog 17 #[.string s, .int .i64 p, .string t] w (DecNo l n w) := by
  have := decode32I s p t w hv ht
  rw [h] at this
  exact this

set_option maxHeartbeats 400000 in
theorem room5_any (p : Int) (n : Nat) (w : World) (hp : -1 ≤ p) (hn : n ≤ 1152921504606846976) :
    Calls Try.prog 13 #[.int .i64 5, .int .i64 p, .int .i64 (n : Int)] w fun e w' => e = .returned (.int .i64 ((roomN5 p n : Nat) : Int)) ∧ ∃ q, w' = w.drewN q := by
  have HR : Hid ((((roomN5 p n : Nat) : Int)) = if p < 0 then (n : Int) / 8 * 5 + (n : Int) % 8 * 5 / 8 else (n : Int) / 8 * 5) := by
    show _ = _
    unfold roomN5
    by_cases h : p = -1
    · rw [if_pos h, if_pos (by omega)]; omega
    · rw [if_neg h, if_neg (by omega)]; omega
  by_cases hp0 : p < 0
  · go_enter Try.func13, Try.ntmps13
    go_wp2
    go_ret
    exact ⟨ret_int (by rw [HR.out, if_pos (by omega)]), 0, rfl⟩
  · go_enter Try.func13, Try.ntmps13
    go_wp2
    go_quiet ((go_at_call 27; exact quiet_left' (group5_any _)))
    go_wp2
    go_ret
    exact ⟨ret_int (by rw [HR.out, if_neg (by omega)]), _, rfl⟩

theorem decLen32_room (p : Int) (n : Nat) : decLen32 p (n : Int) = ((roomN5 p n : Nat) : Int) := by
  unfold decLen32 roomN5
  split <;> omega
theorem roomN5_mono (p : Int) (m n : Nat) (h : m ≤ n) : roomN5 p m ≤ roomN5 p n := by unfold roomN5; split <;> omega
theorem dec32_room (a : List UInt8) (p : Int) (s : List UInt8) : (dec32 a p s).1.length ≤ roomN5 p s.length := by
  obtain ⟨h1, h2⟩ := dec32_le a p s
  exact Nat.le_trans h1 (roomN5_mono p _ _ h2)

end Go.Proofs.Ytanebcdhjkpnjaa
