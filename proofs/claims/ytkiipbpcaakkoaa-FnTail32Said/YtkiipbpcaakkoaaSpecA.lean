/-
  Contracts of the reference's functions Newline, Index, Valid: what each returns, for every argument; the world stays. Conditions: the lengths of strings fit an int.
-/
import Derived.Test.YtkiipbpcaakkoaaRows
import Derived.Test.YtkiipbpcaakkoaaPlain
import Derived.WalkKit
import Derived.WalkSpells
import Derived.WalkLawsBesides
import Derived.Lib.Hide
import Derived.Deep.QuietTactic
import Derived.BigQuiet
namespace Go.Proofs.Ytkiipbpcaakkoaa
open Go.RowKit

theorem ret_int {k : IntKind} {a b : Int} (h : a = b) : Ending.returned (.int k a) = .returned (.int k b) := by rw [h]
theorem wrap64_byte (c : UInt8) : wrap64 ((c.toNat : Nat) : Int) = ((c.toNat : Nat) : Int) := by
  have := c.toNat_lt
  unfold wrap64
  omega
theorem ret_bool {a b : Bool} (h : a = b) : Ending.returned (.bool a) = .returned (.bool b) := by rw [h]

set_option maxHeartbeats 400000 in
theorem newline_any (b : Int) (w : World) :
    Calls Try.prog 15 #[.int .u8 b] w fun e w' => e = .returned (.bool (b == 13 || b == 10)) ∧ w = w' := by
  go_enter Try.func15, Try.ntmps15
  go_wp2
  all_goals go_ret
  all_goals simp_all

set_option maxHeartbeats 400000 in
theorem index_any (s : ByteArray) (b : Int) (w : World) (hs : s.size ≤ maxLen) :
    Calls Try.prog 16 #[.string s, .int .u8 b] w fun e w' => e = .returned (.int .i64 (idx s.data.toList b)) ∧ w = w' := by
  unfold maxLen at hs
  go_enter Try.func16, Try.ntmps16
  go_wp2
  go_loop [5] (fun i => ∃ k : Nat, k ≤ s.size ∧ i = .int .i64 k ∧ Hid (∀ j, (hj : j < s.data.toList.length) → j < k → ((s.data.toList[j]'hj).toNat : Int) ≠ b)) (fun i => s.size - (intOf i).toNat)
  case atStart => exact ⟨0, Nat.zero_le _, rfl, fun j _ h => absurd h (Nat.not_lt_zero _)⟩
  case round =>
    obtain ⟨k, hk, rfl, hn⟩ := hrel
    go_wp2
    · have hlt : k < s.size := by assumption
      have hb : ((s[k].toNat : Int) == b) = true := by assumption
      go_ret
      exact ⟨ret_int (idx_hit _ _ k (by simpa using hlt) (eq_of_beq hb) hn.out).symm, rfl⟩
    · have hlt : k < s.size := by assumption
      have hb : ((s[k].toNat : Int) == b) = false := by assumption
      go_round
      case rel =>
        refine ⟨k + 1, by omega, by go_num, fun j hj hjk => ?_⟩
        by_cases e : j = k
        · subst e; exact beq_eq_false_iff_ne.1 hb
        · exact hn.out j hj (by omega)
      case measure => simp [intOf]; omega
    · have hge : k = s.size := by omega
      subst hge
      go_ret
      exact ⟨ret_int (idx_miss _ _ (fun j hj => hn.out j hj (by simpa using hj))).symm, rfl⟩

theorem valid_step {bits : Nat} {a : List UInt8} {p : Int} (hz : a.length = 2 ^ bits) (hp1 : -1 ≤ p) (hp2 : p ≤ 255) (hp3 : p ≠ 13) (hp4 : p ≠ 10)
    (hall : ∀ j, (hj : j < a.length) → (a[j]'hj).toNat ≠ 13 ∧ (a[j]'hj).toNat ≠ 10 ∧ (a[j]'hj).toNat ≠ 61 ∧ ((a[j]'hj).toNat : Int) ≠ p ∧ idx a ((a[j]'hj).toNat : Int) = (j : Int)) : validB bits a p = true :=
  validB_of ⟨hz, hp1, hp2, hp3, hp4, hall⟩

theorem valid_fall {bits : Nat} {a : List UInt8} {p : Int} (k : Nat) (hk : k < a.length) (c : Int) (hc : c = ((a[k]'hk).toNat : Int)) (h : c = 13 ∨ c = 10 ∨ c = 61 ∨ c = p ∨ idx a c ≠ (k : Int)) : validB bits a p = false := by
  refine validB_not (fun hv => ?_)
  obtain ⟨h1, h2, h3, h4, h5⟩ := hv.2.2.2.2.2 k hk
  subst hc
  rcases h with h | h | h | h | h <;> omega

set_option maxHeartbeats 1000000 in
theorem valid5_any (s : ByteArray) (p : Int) (w : World) (hs : s.size ≤ maxLen) :
    Calls Try.prog 7 #[.int .i64 5, .string s, .int .i64 p] w fun e w' => e = .returned (.bool (validB 5 s.data.toList p)) ∧ w = w' := by
  have HS := Lib.hid hs
  unfold maxLen at hs
  have hl : s.data.toList.length = s.size := by simp
  have HL := Lib.hid hl
  clear hl
  by_cases h0 : s.size = 32 ∧ -1 ≤ p ∧ p ≤ 255 ∧ p ≠ 13 ∧ p ≠ 10
  · obtain ⟨hz, hp1, hp2, hp3, hp4⟩ := h0
    have HZ := Lib.hid hz
    have H3 := Lib.hid hp3
    have H4 := Lib.hid hp4
    have hp3' : (p == 13) = false := by simpa using hp3
    have hp4' : (p == 10) = false := by simpa using hp4
    have hz1 : s.size ≤ 32 := by omega
    have hz2 : 32 ≤ s.size := by omega
    clear hp3 hp4 hz
    go_enter Try.func7, Try.ntmps7
    go_wp2
    go_loop [7] (fun i => ∃ k : Nat, k ≤ s.size ∧ i = .int .i64 k ∧ Hid (∀ j, (hj : j < s.data.toList.length) → j < k → (s.data.toList[j]'hj).toNat ≠ 13 ∧ (s.data.toList[j]'hj).toNat ≠ 10 ∧ (s.data.toList[j]'hj).toNat ≠ 61 ∧ ((s.data.toList[j]'hj).toNat : Int) ≠ p ∧ idx s.data.toList ((s.data.toList[j]'hj).toNat : Int) = (j : Int))) (fun i => s.size - (intOf i).toNat)
    case atStart => exact ⟨0, Nat.zero_le _, rfl, fun j _ h => absurd h (Nat.not_lt_zero _)⟩
    case round =>
      obtain ⟨k, hk, rfl, hn⟩ := hrel
      by_cases hlt : k < s.size
      · have hlt2 : k < s.data.toList.length := by rw [HL.out]; exact hlt
        have hc : ((s[k].toNat : Nat) : Int) = ((s.data.toList[k]'hlt2).toNat : Int) := rfl
        have HC := Lib.hid hc
        clear hc
        go_wp2_with (first | (go_at_call 15; refine (newline_any _ _).mono ?_; rintro e w' ⟨rfl, rfl⟩) | (go_at_call 16; refine (index_any _ _ _ HS.out).mono ?_; rintro e w' ⟨rfl, rfl⟩))
        all_goals first
          | (go_round
             case rel =>
               refine ⟨k + 1, by omega, by go_num, fun j hj hjk => ?_⟩
               by_cases e : j = k
               · subst e
                 rw [← HC.out]
                 have hcc := HC.out
                 simp only [wrap64_byte, beq_eq_false_iff_ne, bne_eq_false_iff_eq, ne_eq] at *
                 refine ⟨by omega, by omega, by omega, by omega, by omega⟩
               · exact hn.out j hj (by omega)
             case measure => simp [intOf]; omega)
          | (go_ret
             refine ⟨ret_bool (valid_fall k hlt2 _ HC.out ?_).symm, rfl⟩
             simp only [wrap64_byte, beq_iff_eq, bne_iff_ne, ne_eq] at *
             omega)
          | (go_ret
             refine ⟨ret_bool (valid_fall k hlt2 _ HC.out ?_).symm, rfl⟩
             simp only [beq_iff_eq, bne_iff_ne, ne_eq] at *
             omega)
      · have hke : k = s.size := by omega
        have hge : s.size ≤ k := by omega
        have hval : validB 5 s.data.toList p = true := valid_step (by rw [HL.out]; exact HZ.out) hp1 hp2 H3.out H4.out (fun j hj => hn.out j hj (by rw [HL.out] at hj; omega))
        have HV := Lib.hid hval
        clear hval hke
        go_wp2
        go_ret
        exact ⟨ret_bool HV.out.symm, rfl⟩
  · have h0' : validB 5 s.data.toList p = false := validB_not (fun h => h0 ⟨by rw [← HL.out]; exact h.1, h.2.1, h.2.2.1, h.2.2.2.1, h.2.2.2.2.1⟩)
    have H0' := Lib.hid h0'
    have H0 := Lib.hid h0
    clear h0 h0'
    go_enter Try.func7, Try.ntmps7
    go_wp2
    all_goals first | (go_ret; exact ⟨ret_bool H0'.out.symm, rfl⟩) | (exfalso; apply H0.out; simp_all; omega)

set_option maxHeartbeats 1000000 in
theorem valid6_any (s : ByteArray) (p : Int) (w : World) (hs : s.size ≤ maxLen) :
    Calls Try.prog 7 #[.int .i64 6, .string s, .int .i64 p] w fun e w' => e = .returned (.bool (validB 6 s.data.toList p)) ∧ w = w' := by
  have HS := Lib.hid hs
  unfold maxLen at hs
  have hl : s.data.toList.length = s.size := by simp
  have HL := Lib.hid hl
  clear hl
  by_cases h0 : s.size = 64 ∧ -1 ≤ p ∧ p ≤ 255 ∧ p ≠ 13 ∧ p ≠ 10
  · obtain ⟨hz, hp1, hp2, hp3, hp4⟩ := h0
    have HZ := Lib.hid hz
    have H3 := Lib.hid hp3
    have H4 := Lib.hid hp4
    have hp3' : (p == 13) = false := by simpa using hp3
    have hp4' : (p == 10) = false := by simpa using hp4
    have hz1 : s.size ≤ 64 := by omega
    have hz2 : 64 ≤ s.size := by omega
    clear hp3 hp4 hz
    go_enter Try.func7, Try.ntmps7
    go_wp2
    go_loop [7] (fun i => ∃ k : Nat, k ≤ s.size ∧ i = .int .i64 k ∧ Hid (∀ j, (hj : j < s.data.toList.length) → j < k → (s.data.toList[j]'hj).toNat ≠ 13 ∧ (s.data.toList[j]'hj).toNat ≠ 10 ∧ (s.data.toList[j]'hj).toNat ≠ 61 ∧ ((s.data.toList[j]'hj).toNat : Int) ≠ p ∧ idx s.data.toList ((s.data.toList[j]'hj).toNat : Int) = (j : Int))) (fun i => s.size - (intOf i).toNat)
    case atStart => exact ⟨0, Nat.zero_le _, rfl, fun j _ h => absurd h (Nat.not_lt_zero _)⟩
    case round =>
      obtain ⟨k, hk, rfl, hn⟩ := hrel
      by_cases hlt : k < s.size
      · have hlt2 : k < s.data.toList.length := by rw [HL.out]; exact hlt
        have hc : ((s[k].toNat : Nat) : Int) = ((s.data.toList[k]'hlt2).toNat : Int) := rfl
        have HC := Lib.hid hc
        clear hc
        go_wp2_with (first | (go_at_call 15; refine (newline_any _ _).mono ?_; rintro e w' ⟨rfl, rfl⟩) | (go_at_call 16; refine (index_any _ _ _ HS.out).mono ?_; rintro e w' ⟨rfl, rfl⟩))
        all_goals first
          | (go_round
             case rel =>
               refine ⟨k + 1, by omega, by go_num, fun j hj hjk => ?_⟩
               by_cases e : j = k
               · subst e
                 rw [← HC.out]
                 have hcc := HC.out
                 simp only [wrap64_byte, beq_eq_false_iff_ne, bne_eq_false_iff_eq, ne_eq] at *
                 refine ⟨by omega, by omega, by omega, by omega, by omega⟩
               · exact hn.out j hj (by omega)
             case measure => simp [intOf]; omega)
          | (go_ret
             refine ⟨ret_bool (valid_fall k hlt2 _ HC.out ?_).symm, rfl⟩
             simp only [wrap64_byte, beq_iff_eq, bne_iff_ne, ne_eq] at *
             omega)
          | (go_ret
             refine ⟨ret_bool (valid_fall k hlt2 _ HC.out ?_).symm, rfl⟩
             simp only [beq_iff_eq, bne_iff_ne, ne_eq] at *
             omega)
      · have hke : k = s.size := by omega
        have hge : s.size ≤ k := by omega
        have hval : validB 6 s.data.toList p = true := valid_step (by rw [HL.out]; exact HZ.out) hp1 hp2 H3.out H4.out (fun j hj => hn.out j hj (by rw [HL.out] at hj; omega))
        have HV := Lib.hid hval
        clear hval hke
        go_wp2
        go_ret
        exact ⟨ret_bool HV.out.symm, rfl⟩
  · have h0' : validB 6 s.data.toList p = false := validB_not (fun h => h0 ⟨by rw [← HL.out]; exact h.1, h.2.1, h.2.2.1, h.2.2.2.1, h.2.2.2.2.1⟩)
    have H0' := Lib.hid h0'
    have H0 := Lib.hid h0
    clear h0 h0'
    go_enter Try.func7, Try.ntmps7
    go_wp2
    all_goals first | (go_ret; exact ⟨ret_bool H0'.out.symm, rfl⟩) | (exfalso; apply H0.out; simp_all; omega)

end Go.Proofs.Ytkiipbpcaakkoaa
