/-
  The walks of the laws Newlines32 and Fits32. Conditions: strings and slices hold at most 1048576 bytes for the first law, 2 ^ 47 - 4096 bytes for the second one.
-/
import Derived.Test.YtanebcdhjkpnjaaSpecE
import Derived.Test.YtanebcdhjkpnjaaLens
import Derived.Test.YtanebcdhjkpnjaaCleanK
import Derived.Deep.RegionWith
import Derived.BigRegion
namespace Go.Proofs.Ytanebcdhjkpnjaa
open Go.RowKit
set_option linter.unusedVariables false

set_option maxHeartbeats 400000 in
theorem room5_any (p : Int) (n : Nat) (w : World) (hp : -1 ≤ p) (hn : n ≤ 1152921504606846976) :
    Calls Try.prog 13 #[.int .i64 5, .int .i64 p, .int .i64 (n : Int)] w fun e w' => e = .returned (.int .i64 ((roomN5 p n : Nat) : Int)) ∧ ∃ q, w' = w.drewN q := by
  have HR : Hid ((((roomN5 p n : Nat) : Int)) = if p < 0 then (n : Int) / 8 * 5 + (n : Int) % 8 * 5 / 8 else (n : Int) / 8 * 5) := by
    show _ = _
    unfold roomN5
    by_cases h : p = -1
    · rw [if_pos h, if_pos (by omega)]; omega
    · rw [if_neg h, if_neg (by omega)]; omega
  by_cases hp0 : p < 0
  · go_enter Try.func13, Try.ntmps13
    go_wp2
    go_ret
    exact ⟨ret_int (by rw [HR.out, if_pos (by omega)]), 0, rfl⟩
  · go_enter Try.func13, Try.ntmps13
    go_wp2
    go_quiet ((go_at_call 27; exact quiet_left' (group5_any _)))
    go_wp2
    go_ret
    exact ⟨ret_int (by rw [HR.out, if_neg (by omega)]), _, rfl⟩

theorem decLen32_room (p : Int) (n : Nat) : decLen32 p (n : Int) = ((roomN5 p n : Nat) : Int) := by
  unfold decLen32 roomN5
  split <;> omega
theorem roomN5_mono (p : Int) (m n : Nat) (h : m ≤ n) : roomN5 p m ≤ roomN5 p n := by unfold roomN5; split <;> omega
theorem dec32_room (a : List UInt8) (p : Int) (s : List UInt8) : (dec32 a p s).1.length ≤ roomN5 p s.length := by
  obtain ⟨h1, h2⟩ := dec32_le a p s
  exact Nat.le_trans h1 (roomN5_mono p _ _ h2)

end Go.Proofs.Ytanebcdhjkpnjaa
