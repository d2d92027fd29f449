/-
  Contracts of the reference's functions Characters, Group, Length: the numbers that they return; the world is as it was, but for draws of an open order. Conditions: the number of bytes lies between 0 and 2 ^ 60.
-/
import Derived.Test.YtkiipbpcaakkoaaSpecA
namespace Go.Proofs.Ytkiipbpcaakkoaa
open Go.RowKit

/-- How many characters of so many bits the bytes take. -/
def chars (bits n : Int) : Int := n / bits * 8 + (n % bits * 8 + bits - 1) / bits
/-- How many characters a whole group has. -/
def grp (bits : Int) : Int := if bits = 6 then 4 else 8
/-- The length of the text of so many bytes. -/
def lenOf (bits p n : Int) : Int := if p < 0 then chars bits n else chars bits n + (grp bits - chars bits n % grp bits) % grp bits

set_option maxHeartbeats 400000 in
theorem chars5_any (n : Int) (w : World) (h0 : 0 ≤ n) (h1 : n ≤ 1152921504606846977) :
    Calls Try.prog 17 #[.int .i64 5, .int .i64 n] w fun e w' => e = .returned (.int .i64 (chars 5 n)) ∧ ∃ k, w' = w.drewN k := by
  go_enter Try.func17, Try.ntmps17
  go_wp2
  go_quiet (fail)
  go_wp2
  go_ret
  exact ⟨ret_int rfl, _, rfl⟩

set_option maxHeartbeats 400000 in
theorem group5_any (w : World) :
    Calls Try.prog 18 #[.int .i64 5] w fun e w' => e = .returned (.int .i64 8) ∧ w = w' := by
  go_enter Try.func18, Try.ntmps18
  go_wp2
  go_ret
  exact ⟨rfl, rfl⟩

theorem chars5_range (n : Int) (h0 : 0 ≤ n) : 0 ≤ chars 5 n ∧ chars 5 n ≤ 2 * n := by unfold chars; omega

set_option maxHeartbeats 400000 in
theorem length5_any (p n : Int) (w : World) (h0 : 0 ≤ n) (h1 : n ≤ 1152921504606846977) :
    Calls Try.prog 9 #[.int .i64 5, .int .i64 p, .int .i64 n] w fun e w' => e = .returned (.int .i64 (lenOf 5 p n)) ∧ ∃ k, w' = w.drewN k := by
  have hr := chars5_range n h0
  have hf : lenOf 5 p n = if p < 0 then chars 5 n else chars 5 n + (8 - chars 5 n % 8) % 8 := rfl
  have HF := Lib.hid hf
  clear hf
  obtain ⟨hr1, hr2⟩ := hr
  by_cases hp : p < 0
  all_goals
    go_enter Try.func9, Try.ntmps9
    go_wp2_with fail
    refine (chars5_any n _ h0 h1).mono ?_
    rintro e w1 ⟨rfl, k, rfl⟩
    go_wp2_with (go_at_call 18; refine (group5_any _).mono ?_; rintro e w2 ⟨rfl, rfl⟩)
    go_ret
    exact ⟨ret_int (by rw [HF.out]; simp [hp]; try omega), _, rfl⟩

set_option maxHeartbeats 400000 in
theorem chars6_any (n : Int) (w : World) (h0 : 0 ≤ n) (h1 : n ≤ 1152921504606846977) :
    Calls Try.prog 17 #[.int .i64 6, .int .i64 n] w fun e w' => e = .returned (.int .i64 (chars 6 n)) ∧ ∃ k, w' = w.drewN k := by
  go_enter Try.func17, Try.ntmps17
  go_wp2
  go_quiet (fail)
  go_wp2
  go_ret
  exact ⟨ret_int rfl, _, rfl⟩

set_option maxHeartbeats 400000 in
theorem group6_any (w : World) :
    Calls Try.prog 18 #[.int .i64 6] w fun e w' => e = .returned (.int .i64 4) ∧ w = w' := by
  go_enter Try.func18, Try.ntmps18
  go_wp2
  go_ret
  exact ⟨rfl, rfl⟩

theorem chars6_range (n : Int) (h0 : 0 ≤ n) : 0 ≤ chars 6 n ∧ chars 6 n ≤ 2 * n := by unfold chars; omega

set_option maxHeartbeats 400000 in
theorem length6_any (p n : Int) (w : World) (h0 : 0 ≤ n) (h1 : n ≤ 1152921504606846977) :
    Calls Try.prog 9 #[.int .i64 6, .int .i64 p, .int .i64 n] w fun e w' => e = .returned (.int .i64 (lenOf 6 p n)) ∧ ∃ k, w' = w.drewN k := by
  have hr := chars6_range n h0
  have hf : lenOf 6 p n = if p < 0 then chars 6 n else chars 6 n + (4 - chars 6 n % 4) % 4 := rfl
  have HF := Lib.hid hf
  clear hf
  obtain ⟨hr1, hr2⟩ := hr
  by_cases hp : p < 0
  all_goals
    go_enter Try.func9, Try.ntmps9
    go_wp2_with fail
    refine (chars6_any n _ h0 h1).mono ?_
    rintro e w1 ⟨rfl, k, rfl⟩
    go_wp2_with (go_at_call 18; refine (group6_any _).mono ?_; rintro e w2 ⟨rfl, rfl⟩)
    go_ret
    exact ⟨ret_int (by rw [HF.out]; simp [hp]; try omega), _, rfl⟩

end Go.Proofs.Ytkiipbpcaakkoaa
