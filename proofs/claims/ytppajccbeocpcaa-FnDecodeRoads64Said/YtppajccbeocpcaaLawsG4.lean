/-
  The walk of the law DecodeInto64: it returns true. Conditions: strings and slices hold at most 2 ^ 47 - 4096 bytes.
-/
import Derived.Test.YtppajccbeocpcaaLawsG2
import Derived.Test.YtppajccbeocpcaaD64I
import Derived.Test.YtppajccbeocpcaaConv
import Derived.IntWalk
namespace Go.Proofs.Ytppajccbeocpcaa
open Go.RowKit
set_option linter.unusedVariables false

theorem quiet_draw {P : Program} {f : FuncId} {args : Array Value} {w : World} {n : Nat} {v : Value}
    (h : Calls P f args (w.drewN n) fun e w' => e = .returned v ∧ ∃ q, w' = (w.drewN n).drewN q) : Calls P f args (w.drewN n) fun e w'' => e = .returned v ∧ ∃ m, w'' = w.drewN m :=
  h.mono fun _ _ ⟨he, q, hq⟩ => ⟨he, n + q, by rw [hq, World.drewN_drewN]⟩

theorem drop_more {α : Type} {x y : List α} {a b : Nat} (h : x.drop a = y.drop a) (hab : a ≤ b) : x.drop b = y.drop b := by
  have e : b = a + (b - a) := by omega
  rw [e, ← List.drop_drop, ← List.drop_drop, h]

set_option maxHeartbeats 1000000 in
theorem law_FnDecodeInto64 (s : ByteArray) (p : Int) (st : Bool) (vd : Value) (d : List UInt8) (t : ByteArray) (w : World) (hs : s.size ≤ 140737488351232) (_ : (Lit.int .i64 p).wf = true) (_ : True) (hbd : Bys w vd d) (hd : d.length ≤ 140737488351232) (ht : t.size ≤ 140737488351232) :
    Calls Try.prog 5 #[.string s, .int .i64 p, .bool st, vd, .string t] w fun e w' => e = .returned (.bool true) ∧ Below w.heap.size w w' := by
  have HS : Hid (s.size ≤ maxLen) := by show _ ≤ _; unfold maxLen; omega
  clear hs
  have HYD := Lib.hid hbd
  obtain ⟨A1, c1, rfl, hc1, hcm1, _⟩ := hbd
  unfold maxLen at hcm1
  cases hv : validB 6 s.data.toList p
  · have HV := Lib.hid hv
    clear hv
    go_enter Try.func5, Try.ntmps5
    go_wp2_with fail
    refine (valid6_any s p _ HS.out).mono ?_
    rintro e w1 ⟨rfl, rfl⟩
    rw [HV.out]
    go_wp2
    go_ret
    exact ⟨rfl, Below.refl _ _⟩
  have HV := Lib.hid hv
  have HVP := Lib.hid (validB_true hv)
  have hp1 := HVP.out.2.1
  clear hv
  have hL : t.data.toList.length = t.size := by simp
  have hle := dec_le s.data.toList p st t.data.toList
  have hle0 := dec_le s.data.toList p false t.data.toList
  have hrs := roomN_small p t.data.toList.length
  rw [hL] at hle hle0 hrs
  have HF := Lib.hid (dec_facts HVP.out st t.data.toList)
  clear hL
  obtain ⟨M, hM⟩ : ∃ M, M = roomN p t.size := ⟨_, rfl⟩
  rw [← hM] at hle hle0 hrs
  have HM := Lib.hid hM
  clear hM
  by_cases hroom : d.length < M
  · go_enter Try.func5, Try.ntmps5
    go_wp2_with fail
    refine (valid6_any s p _ HS.out).mono ?_
    rintro e w1 ⟨rfl, rfl⟩
    rw [HV.out]
    go_wp2_with fail
    refine (room6_any p t.size _ hp1 (by omega)).mono ?_
    rintro e w2 ⟨rfl, q2, rfl⟩
    rw [← HM.out]
    go_wp2
    go_ret
    exact ⟨rfl, below_drewN (Below.refl _ _) q2⟩
  have hdr : decide (d.length < M) = false := by simpa using hroom
  go_enter Try.func5, Try.ntmps5
  go_wp2_with fail
  refine (valid6_any s p _ HS.out).mono ?_
  rintro e w1 ⟨rfl, rfl⟩
  rw [HV.out]
  go_wp2_with fail
  refine (room6_any p t.size _ hp1 (by omega)).mono ?_
  rintro e w2 ⟨rfl, q2, rfl⟩
  rw [← HM.out]
  obtain ⟨c2, w3, hc21, hc22, hcv, HB3, HY3, _, _⟩ := conv_bys (P := Try.prog) (w.drewN q2) 9 23 5 t Try.underlying9 Try.underlying23 Try.underlying5 (by omega)
  have HBw3 : Hid (Below w.heap.size w w3) := (below_drewN (Below.refl _ w) q2).trans HB3.out
  go_wp2_with fail
  refine (decodeInto64I s p st _ d _ t.data.toList _ HVP.out (HYD.out.below HBw3.out) hd HY3.out (by omega) (by omega)).mono ?_
  rintro e w4 ⟨g4, c4, d4, rfl, hy4, hd4, htk4, hdr4, hb4⟩
  have HY4 := Lib.hid hy4
  have HTK4 := Lib.hid htk4
  have HD4 := Lib.hid hd4
  have hc4 : d.length ≤ c4 ∧ c4 ≤ maxLen := by
    obtain ⟨A', c', e, h1, h2, _⟩ := hy4
    simp only [Value.slice.injEq] at e
    obtain ⟨_, h3, rfl⟩ := e
    exact ⟨by omega, h2⟩
  obtain ⟨hc4a, hc4b⟩ := hc4
  unfold maxLen at hc4b
  have HB4 := Lib.hid (below_trans' HBw3.out hb4)
  clear hy4 hd4 htk4 hdr4 hb4 hcv HB3 HY3 HBw3
  go_wp2_with fail
  refine (decoded6_any s t p _ HVP.out (by omega)).mono ?_
  rintro e w5 ⟨v5, rfl, hy5, hb5⟩
  have HY5 := Lib.hid hy5
  have HY4' := Lib.hid (HY4.out.below hb5)
  have HB5 := Lib.hid (below_trans' HB4.out hb5)
  clear hy5 hb5 HY4 HB4
  have HO := Lib.hid HF.out.1
  have HDD := Lib.hid HF.out.2
  clear HF hle0
  generalize hR : decOf s.data.toList p st t.data.toList = R at *
  generalize hFB : fineB 6 s.data.toList p (strip t.data.toList) = FB at *
  generalize hUZ : (unS (numsOf s.data.toList (strip t.data.toList)) == 0) = UZ at *
  clear hR hFB hUZ
  obtain ⟨bs, err⟩ := R
  simp only at HO HDD HTK4 hle ⊢
  generalize okOf err = OK at *
  have hg1 : decide (M < bs.length) = false := by simpa using hle
  go_wp2_with fail
  refine (room6_any p t.size _ hp1 (by omega)).mono ?_
  rintro e w6 ⟨rfl, q6, rfl⟩
  rw [← HM.out]
  cases OK
  · have ho := HO.out
    cases FB
    · clear ho
      go_wp2
      go_ret
      exact ⟨ret_bool rfl, below_drewN HB5.out q6⟩
    · cases UZ <;> cases st <;> simp at ho
      clear HO HDD
      go_wp2
      go_ret
      exact ⟨ret_bool rfl, below_drewN HB5.out q6⟩
  · obtain ⟨hfb, hbs⟩ := HDD.out rfl
    subst hfb
    have ho := HO.out
    have HBS := Lib.hid hbs
    clear hbs HO HDD
    have HY5' : Hid (Bys (w5.drewN q6) v5 bs) := by have := HY5.out; rw [if_pos rfl, ← HBS.out] at this; exact this
    have HY6 : Hid (Bys (w5.drewN q6) (.slice (some ⟨g4, 0, none⟩) bs.length c4) bs) := by
      have := HY4'.out.head bs.length (by rw [HD4.out]; omega)
      rw [HTK4.out] at this
      exact this
    clear HY5 HY4'
    cases UZ <;> cases st <;> simp at ho
    all_goals
      go_wp2_with fail
      refine (same_any _ _ bs bs _ HY6.out HY5'.out).mono ?_
      rintro e w7 ⟨rfl, q7, rfl⟩
      go_wp2
      go_ret
      exact ⟨ret_bool (by simp), below_drewN HB5.out (q6 + q7)⟩

end Go.Proofs.Ytppajccbeocpcaa
