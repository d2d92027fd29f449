/-
  The walk of the law ErrorTexts: it returns true. Conditions: the table of powers of ten as its initialiser lays it.
-/
import Derived.Test.YtejkphobeclefaaDoorErrW
import Derived.WalkKit
import Derived.Deep.RegionHeld3
namespace Go.Proofs.YtejkphobeclefaaDoor
open Go.RowKit
set_option linter.unusedVariables false

theorem words64_inj {a b : Int} (h : (⟨(words64 ++ Lib.itoa a).toArray⟩ : ByteArray) = ⟨(words64 ++ Lib.itoa b).toArray⟩) : a = b := by
  have h1 := congrArg (fun o : ByteArray => o.data.toList) h
  simp only [List.append_cancel_left_eq] at h1
  exact itoa_inj h1

theorem words_tail (d l : List UInt8) (hd : d.length = 2) : (⟨(words d ++ l).toArray⟩ : ByteArray).extract 34 (34 + l.length) = ⟨l.toArray⟩ := by
  rw [ByteArray.extract_mk]
  have h : (words d).length = 34 := by unfold words; simp [hd]
  rw [List.drop_left' h, Nat.add_sub_cancel_left, List.take_length]

theorem hid_drew {a w : World} (h : Hid (Below a.heap.size a w)) : Hid (Below a.heap.size a w.drew) := h.out.drew

theorem hid_trans {a w w' : World} (h : Hid (Below a.heap.size a w)) (h' : Below w.heap.size w w') : Hid (Below a.heap.size a w') := below_trans' h.out h'

set_option maxHeartbeats 800000 in
theorem law_FnErrorTexts (a b : Int) (w : World) (a0 : -9223372036854775808 ≤ a) (a1 : a ≤ 9223372036854775807) (b0 : -9223372036854775808 ≤ b) (b1 : b ≤ 9223372036854775807) (ht : Pow w) :
    Calls Tryd.prog 5 #[.int .i64 a, .int .i64 b] w fun e w' => e = .returned (.bool true) ∧ Below w.heap.size w w' := by
  have HT := Lib.hid ht
  clear ht
  have HL := Lib.hid (Lib.itoa_length_le a a0 a1)
  go_enter Tryd.func5, Tryd.ntmps5
  go_wp2_with fail
  refine (impl_text64 a _ a0 a1 HT.out).mono ?_
  rintro e w1 ⟨rfl, hb1⟩
  have HT1 : Hid (Pow w1) := HT.out.below hb1
  have HB1 := Lib.hid hb1
  clear hb1
  go_wp2_with fail
  refine (impl_text32 a _ a0 a1 HT1.out).mono ?_
  rintro e w2 ⟨rfl, hb2⟩
  have HT2 : Hid (Pow w2) := HT1.out.below hb2
  have HB2 := Lib.hid (below_trans' HB1.out hb2)
  clear hb2 HT1 HB1
  go_wp2_with fail
  refine (impl_text64 b _ b0 b1 HT2.out).mono ?_
  rintro e w3 ⟨rfl, hb3⟩
  have HB3 := Lib.hid (below_trans' HB2.out hb3)
  clear hb3 HT2 HB2
  go_wp2_with fail
  refine (number_any a _ a0 a1).mono ?_
  rintro e w4 ⟨rfl, hb4⟩
  have HB4 := Lib.hid (below_trans' HB3.out hb4)
  clear hb4 HB3
  have HN : Hid (∀ w0 : World, Calls Tryd.prog 10 #[.int .i64 a] w0 fun e w' => e = .returned (.string ⟨(Lib.itoa a).toArray⟩) ∧ Below w0.heap.size w0 w') := fun w0 => number_any a w0 a0 a1
  have hq : decide ((⟨(words64 ++ Lib.itoa a).toArray⟩ : ByteArray) = ⟨(words64 ++ Lib.itoa b).toArray⟩) = decide (a = b) := by
    by_cases h : a = b
    · subst h; simp
    · rw [decide_eq_false h, decide_eq_false (fun e => h (words64_inj e))]
  have hx := words_tail [54, 52] (Lib.itoa a) rfl
  have hy := words_tail [51, 50] (Lib.itoa a) rfl
  rw [show words [54, 52] = words64 from rfl] at hx
  rw [show words [51, 50] = words32 from rfl] at hy
  have hn := ba_size (Lib.itoa a)
  have hxs : (⟨(words64 ++ Lib.itoa a).toArray⟩ : ByteArray).size = 34 + (Lib.itoa a).length := by rw [ba_size, List.length_append]; rfl
  have hys : (⟨(words32 ++ Lib.itoa a).toArray⟩ : ByteArray).size = 34 + (Lib.itoa a).length := by rw [ba_size, List.length_append]; rfl
  have hk : (Lib.itoa a).length ≤ 21 := HL.out
  generalize (⟨(words64 ++ Lib.itoa a).toArray⟩ : ByteArray) = x at *
  generalize (⟨(words32 ++ Lib.itoa a).toArray⟩ : ByteArray) = y at *
  generalize (⟨(words64 ++ Lib.itoa b).toArray⟩ : ByteArray) = z at *
  generalize (⟨(Lib.itoa a).toArray⟩ : ByteArray) = o at *
  generalize (Lib.itoa a).length = k at *
  obtain ⟨M, hM⟩ : ∃ M, M = 34 + k := ⟨_, rfl⟩
  rw [← hM] at hx hy hxs hys
  have hgt : decide ((k : Int) < (M : Int)) = true := by rw [decide_eq_true_iff]; omega
  have hgt2 : decide (k < M) = true := by rw [decide_eq_true_iff]; omega
  have hkM : k < M := by omega
  have hsub : (M : Int) - (k : Int) = 34 := by omega
  have hwr : IntKind.i64.wrap ((M : Int) - (k : Int)) = 34 := by rw [hsub]; rfl
  have hle : (34 : Int) ≤ (M : Int) := by omega
  have hle2 : 34 ≤ M := by omega
  have hMb : (M : Int) ≤ 100 := by omega
  have hw34 : IntKind.i64.wrap 34 = 34 := rfl
  have hkM2 : k ≤ M := by omega
  have hkM3 : (k : Int) ≤ (M : Int) := by omega
  have hz0 : (0 : Int) ≤ (M : Int) - (k : Int) := by omega
  have hz1 : (M : Int) - (k : Int) ≤ (M : Int) := by omega
  have htn : ((M : Int) - (k : Int)).toNat = 34 := by omega
  have hkn : (0 : Int) ≤ (k : Int) := by omega
  clear hM HL hk hsub hz0 hz1 htn
  by_cases hab : a = b
  · subst hab
    have hxz : x = z := by simpa using hq
    subst hxz
    clear hq
    go_wp2_with fail
    go_region_held3 (fun wx => Hid (Below w.heap.size w wx)) (first | exact hid_drew HB4 | exact hid_trans (by assumption) hb5) (first
      | (go_at_call 10; refine (HN.out _).mono ?_; rintro e w5 ⟨rfl, hb5⟩))
    go_wp2
    go_ret
    exact ⟨rfl, Hid.out (by assumption)⟩
  · have hxz : ¬ x = z := by intro e; rw [decide_eq_true e] at hq; exact hab (of_decide_eq_true hq.symm)
    have hd3 : (x.toList == z.toList) = false := by
      rw [beq_eq_false_iff_ne]
      intro e
      rw [Lib.toList_data, Lib.toList_data] at e
      exact hxz (ByteArray.ext (Array.toList_inj.1 e))
    have hd4 : (a == b) = false := beq_eq_false_iff_ne.2 hab
    clear hq
    go_wp2_with fail
    go_region_held3 (fun wx => Hid (Below w.heap.size w wx)) (first | exact hid_drew HB4 | exact hid_trans (by assumption) hb5) (first
      | (go_at_call 10; refine (HN.out _).mono ?_; rintro e w5 ⟨rfl, hb5⟩))
    go_wp2
    go_ret
    exact ⟨rfl, Hid.out (by assumption)⟩

end Go.Proofs.YtejkphobeclefaaDoor
