/-
  The contract of the laws' function room, and the walk of the law Fits64: it returns true. Conditions: strings hold at most 2 ^ 47 - 4096 bytes.
-/
import Derived.Test.YthnfghjcmfcghaaLawsG
namespace Go.Proofs.Ythnfghjcmfcghaa
open Go.RowKit
set_option linter.unusedVariables false

set_option maxHeartbeats 400000 in
theorem room6_any (p : Int) (n : Nat) (w : World) (hp : -1 ≤ p) (hn : n ≤ 1152921504606846976) :
    Calls Try.prog 24 #[.int .i64 6, .int .i64 p, .int .i64 (n : Int)] w fun e w' => e = .returned (.int .i64 ((roomN p n : Nat) : Int)) ∧ ∃ q, w' = w.drewN q := by
  have HR : Hid ((((roomN p n : Nat) : Int)) = if p < 0 then (n : Int) / 8 * 6 + (n : Int) % 8 * 6 / 8 else (n : Int) / 4 * 3) := by
    show _ = _
    unfold roomN
    by_cases h : p = -1
    · rw [if_pos h, if_pos (by omega)]; omega
    · rw [if_neg h, if_neg (by omega)]; omega
  by_cases hp0 : p < 0
  · go_enter Try.func24, Try.ntmps24
    go_wp2
    go_ret
    exact ⟨ret_int (by rw [HR.out, if_pos (by omega)]), 0, rfl⟩
  · go_enter Try.func24, Try.ntmps24
    go_wp2
    go_quiet ((go_at_call 29; exact quiet_left' (group6_any _)))
    go_wp2
    go_ret
    exact ⟨ret_int (by rw [HR.out, if_neg (by omega)]), _, rfl⟩

end Go.Proofs.Ythnfghjcmfcghaa
