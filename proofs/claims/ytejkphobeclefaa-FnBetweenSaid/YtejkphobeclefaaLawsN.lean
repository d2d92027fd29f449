/-
  The walk of the law Between: it returns true. Conditions: strings and slices hold at most 2 ^ 47 - 4096 bytes.
-/
import Derived.Test.YtejkphobeclefaaCleanK
import Derived.Test.YtejkphobeclefaaD64S
import Derived.Test.YtejkphobeclefaaE64S
import Derived.Test.YtejkphobeclefaaE32S
namespace Go.Proofs.Ytejkphobeclefaa
open Go.RowKit
set_option linter.unusedVariables false

theorem decode64_okN (s : ByteArray) (p : Int) (st : Bool) (t : ByteArray) (l : List UInt8) (w : World) (hv : validP 6 s.data.toList p) (ht : t.size ≤ 281474976710656) (h : decOf s.data.toList p st t.data.toList = (l, none)) :
    Calls Try.prog 7 #[.string s, .int .i64 p, .bool st, .string t] w (DecOk l w) := by
  have := decode64I s p st t w hv ht
  rw [h] at this
  exact this

set_option maxHeartbeats 1000000 in
set_option maxRecDepth 100000 in
theorem law_FnBetween (s s5 : ByteArray) (p : Int) (v : Value) (l : List UInt8) (w : World) (hs : s.size ≤ 140737488351232) (hs5 : s5.size ≤ 140737488351232) (_ : (Lit.int .i64 p).wf = true) (hb : Bys w v l) (hl : l.length ≤ 140737488351232) :
    Calls Try.prog 3 #[.string s, .string s5, .int .i64 p, v] w fun e w' => e = .returned (.bool true) ∧ Below w.heap.size w w' := by
  have HS : Hid (s.size ≤ maxLen) := by show _ ≤ _; unfold maxLen; omega
  have HS5 : Hid (s5.size ≤ maxLen) := by show _ ≤ _; unfold maxLen; omega
  clear hs hs5
  have HY := Lib.hid hb
  obtain ⟨A1, c1, rfl, hc1, hcm1, _⟩ := hb
  unfold maxLen at hcm1
  cases hv : validB 6 s.data.toList p
  · have HV := Lib.hid hv
    clear hv
    go_enter Try.func3, Try.ntmps3
    go_wp2_with fail
    refine (valid6_any s p _ HS.out).mono ?_
    rintro e w1 ⟨rfl, rfl⟩
    rw [HV.out]
    go_wp2
    go_ret
    exact ⟨rfl, Below.refl _ _⟩
  have HV := Lib.hid hv
  have HVP := Lib.hid (validB_true hv)
  clear hv
  cases hv5 : validB 5 s5.data.toList p
  · have HV5 := Lib.hid hv5
    clear hv5
    go_enter Try.func3, Try.ntmps3
    go_wp2_with fail
    refine (valid6_any s p _ HS.out).mono ?_
    rintro e w1 ⟨rfl, rfl⟩
    rw [HV.out]
    go_wp2_with fail
    refine (valid5_any s5 p _ HS5.out).mono ?_
    rintro e w1 ⟨rfl, rfl⟩
    rw [HV5.out]
    go_wp2
    go_ret
    exact ⟨rfl, Below.refl _ _⟩
  have HV5 := Lib.hid hv5
  have HVP5 := Lib.hid (validB_true hv5)
  clear hv5
  cases hcl : cleanB p s5.data.toList (⟨#[]⟩ : ByteArray).data.toList
  · have HCL := Lib.hid hcl
    clear hcl
    go_enter Try.func3, Try.ntmps3
    go_wp2_with fail
    refine (valid6_any s p _ HS.out).mono ?_
    rintro e w1 ⟨rfl, rfl⟩
    rw [HV.out]
    go_wp2_with fail
    refine (valid5_any s5 p _ HS5.out).mono ?_
    rintro e w1 ⟨rfl, rfl⟩
    rw [HV5.out]
    go_wp2_with fail
    refine (clean32_any p s5 ⟨#[]⟩ _ HS5.out (Nat.zero_le _)).mono ?_
    rintro e w1 ⟨rfl, rfl⟩
    rw [HCL.out]
    go_wp2
    go_ret
    exact ⟨rfl, Below.refl _ _⟩
  have HCL := Lib.hid hcl
  have HCN : Hid (CleanA s5.data.toList p) := cleanB_a hcl
  clear hcl
  obtain ⟨u, HU, hu⟩ := strIs_mk (textOf 6 s.data.toList p l)
  have HUN := Lib.hid hu
  have HUD : Hid (u.data.toList = textOf 6 s.data.toList p l) := HU
  have hsz : u.size ≤ 281474976710656 := by rw [HU.size, textOf_length6]; have := lenN6_le p l.length; omega
  have HDE : Hid (decOf s.data.toList p true u.data.toList = (l, none)) := dec_text6 HVP.out true _ _ (by rw [HUD.out]; exact text6_strip HVP.out l)
  obtain ⟨u5, HU5, hu5⟩ := strIs_mk (textOf 5 s5.data.toList p l)
  have HUN5 := Lib.hid hu5
  have HUD5 : Hid (u5.data.toList = textOf 5 s5.data.toList p l) := HU5
  have hfa := lenN5_facts p l.length
  have hcw := charsN5_wide l.length
  have hsz5 : u5.size ≤ 281474976710656 := by rw [HU5.size, textOf_length5]; omega
  have HDE5 : Hid (dec32 s5.data.toList p u5.data.toList = (l, none)) := dec_text5 HVP5.out HCN.out _ _ (by rw [HUD5.out]; exact text5_stripped HVP5.out l _ (fun c hc => Or.inl hc))
  clear HU hu HU5 hu5 hfa hcw
  go_enter Try.func3, Try.ntmps3
  go_wp2_with fail
  refine (valid6_any s p _ HS.out).mono ?_
  rintro e w1 ⟨rfl, rfl⟩
  rw [HV.out]
  go_wp2_with fail
  refine (valid5_any s5 p _ HS5.out).mono ?_
  rintro e w1 ⟨rfl, rfl⟩
  rw [HV5.out]
  go_wp2_with fail
  refine (clean32_any p s5 ⟨#[]⟩ _ HS5.out (Nat.zero_le _)).mono ?_
  rintro e w1 ⟨rfl, rfl⟩
  rw [HCL.out]
  go_wp2_with fail
  refine (encode64I s p _ l _ HVP.out HY.out hl).mono ?_
  rintro e w2 ⟨rfl, hb2⟩
  rw [HUN.out]
  have HB2 := Lib.hid hb2
  clear hb2
  go_wp2_with fail
  refine (decode64_okN s p true u l _ HVP.out hsz HDE.out).mono ?_
  rintro e w3 ⟨g3, c3, rfl, hy3, hb3⟩
  have HY3 := Lib.hid hy3
  have HB3 := Lib.hid (below_trans' HB2.out hb3)
  clear hy3 hb3 HB2
  go_wp2_with fail
  refine (encode32I s5 p _ l _ HVP5.out HY3.out hl).mono ?_
  rintro e w4 ⟨rfl, hb4⟩
  rw [HUN5.out]
  have HB4 := Lib.hid (below_trans' HB3.out hb4)
  clear hb4 HB3
  go_wp2_with fail
  refine (decode32_ok s5 p u5 l _ HVP5.out hsz5 HDE5.out).mono ?_
  rintro e w5 ⟨g5, c5, rfl, hy5, hb5⟩
  have HY5 := Lib.hid hy5
  have HB5 := Lib.hid (below_trans' HB4.out hb5)
  clear hy5 hb5 HB4
  go_wp2_with fail
  refine (same_any _ _ l l _ HY5.out (HY.out.below HB5.out)).mono ?_
  rintro e w6 ⟨rfl, q6, rfl⟩
  go_wp2
  go_ret
  exact ⟨ret_bool (by simp), below_drewN HB5.out q6⟩

end Go.Proofs.Ytejkphobeclefaa
