/-
  The contract of the laws' function room, and the walk of the law Fits64: it returns true. Conditions: strings hold at most 2 ^ 47 - 4096 bytes.
-/
import Derived.Test.YtppajccbeocpcaaLawsG
namespace Go.Proofs.Ytppajccbeocpcaa
open Go.RowKit
set_option linter.unusedVariables false

set_option maxHeartbeats 400000 in
theorem room6_any (p : Int) (n : Nat) (w : World) (hp : -1 ≤ p) (hn : n ≤ 1152921504606846976) :
    Calls Try.prog 19 #[.int .i64 6, .int .i64 p, .int .i64 (n : Int)] w fun e w' => e = .returned (.int .i64 ((roomN p n : Nat) : Int)) ∧ ∃ q, w' = w.drewN q := by
  have HR : Hid ((((roomN p n : Nat) : Int)) = if p < 0 then (n : Int) / 8 * 6 + (n : Int) % 8 * 6 / 8 else (n : Int) / 4 * 3) := by
    show _ = _
    unfold roomN
    by_cases h : p = -1
    · rw [if_pos h, if_pos (by omega)]; omega
    · rw [if_neg h, if_neg (by omega)]; omega
  by_cases hp0 : p < 0
  · go_enter Try.func19, Try.ntmps19
    go_wp2
    go_ret
    exact ⟨ret_int (by rw [HR.out, if_pos (by omega)]), 0, rfl⟩
  · go_enter Try.func19, Try.ntmps19
    go_wp2
    go_quiet ((go_at_call 34; exact quiet_left' (group6_any _)))
    go_wp2
    go_ret
    exact ⟨ret_int (by rw [HR.out, if_neg (by omega)]), _, rfl⟩

set_option maxHeartbeats 1000000 in
theorem law_FnFits64 (s : ByteArray) (p : Int) (st : Bool) (t : ByteArray) (w : World) (hs : s.size ≤ 140737488351232) (_ : (Lit.int .i64 p).wf = true) (_ : True) (ht : t.size ≤ 140737488351232) :
    Calls Try.prog 9 #[.string s, .int .i64 p, .bool st, .string t] w fun e w' => e = .returned (.bool true) ∧ Below w.heap.size w w' := by
  have HS : Hid (s.size ≤ maxLen) := by show _ ≤ _; unfold maxLen; omega
  clear hs
  cases hv : validB 6 s.data.toList p
  · have HV := Lib.hid hv
    clear hv
    go_enter Try.func9, Try.ntmps9
    go_wp2_with fail
    refine (valid6_any s p _ HS.out).mono ?_
    rintro e w1 ⟨rfl, rfl⟩
    rw [HV.out]
    go_wp2
    go_ret
    exact ⟨rfl, Below.refl _ _⟩
  have HV := Lib.hid hv
  have HVP := Lib.hid (validB_true hv)
  have hp1 := HVP.out.2.1
  clear hv
  have hL : t.data.toList.length = t.size := by simp
  have hle := dec_le s.data.toList p st t.data.toList
  have hrs := roomN_small p t.data.toList.length
  rw [hL] at hle hrs
  have HX := Lib.hid (decLen64_room p t.size)
  clear hL
  go_enter Try.func9, Try.ntmps9
  go_wp2_with fail
  refine (valid6_any s p _ HS.out).mono ?_
  rintro e w1 ⟨rfl, rfl⟩
  rw [HV.out]
  go_wp2_with fail
  refine (decode64I s p st t _ HVP.out (by omega)).mono ?_
  rintro e w2 ⟨g2, c2, rfl, hy2, hb2⟩
  have hc2 : (decOf s.data.toList p st t.data.toList).1.length ≤ c2 := by
    obtain ⟨A', c', e, h1, _⟩ := hy2
    simp only [Value.slice.injEq] at e
    obtain ⟨_, _, rfl⟩ := e
    exact h1
  have HB2 := Lib.hid hb2
  clear hy2 hb2
  generalize decOf s.data.toList p st t.data.toList = R at *
  obtain ⟨bs, err⟩ := R
  simp only at hle hc2 ⊢
  go_wp2_with fail
  refine (decodedLen64I s p (t.size : Int) _ HVP.out (by omega) (by omega)).mono ?_
  rintro e w3 ⟨rfl, hb3⟩
  rw [HX.out]
  have HB3 := Lib.hid (below_trans' HB2.out hb3)
  clear hb3
  generalize hRN : roomN p t.size = RN at *
  have HRN := Lib.hid hRN
  clear hRN
  go_wp2_with fail
  refine (room6_any p t.size _ hp1 (by omega)).mono ?_
  rintro e w4 ⟨rfl, q4, rfl⟩
  rw [HRN.out]
  go_wp2
  go_ret
  exact ⟨ret_bool (by simp), below_drewN HB3.out q4⟩

end Go.Proofs.Ytppajccbeocpcaa
