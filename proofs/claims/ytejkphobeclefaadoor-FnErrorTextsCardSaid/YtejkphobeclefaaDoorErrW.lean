/-
  Contracts of the two error texts, program and reference, and the walks of the laws ExactErrorText32 and ExactErrorText64: they return true. Conditions: the table of powers of ten as its initialiser lays it.
-/
import Derived.Test.YtejkphobeclefaaDoorErrN
import Derived.Test.YtejkphobeclefaaDoorShelf
import Derived.Lib.AppendIntMem
namespace Go.Proofs.YtejkphobeclefaaDoor
open Go.RowKit
set_option linter.unusedVariables false

/-- The table of powers of ten, as its initialiser lays it. -/
def Pow (w : World) : Prop := Lib.TabIs Tryd.prog w "internal/strconv.uint64pow10" .u64 Lib.pow10Tab

theorem gPow : ∃ g, Tryd.prog.globalNamed "internal/strconv.uint64pow10" = some g := by
  first
  | exact ⟨0, by kernel_rfl⟩
  | exact ⟨1, by kernel_rfl⟩
  | exact ⟨2, by kernel_rfl⟩

theorem Pow.below {w w' : World} (h : Pow w) (hb : Below w.heap.size w w') : Pow w' := by
  obtain ⟨g, hg⟩ := gPow
  unfold Pow Lib.TabIs World.var? at h ⊢
  rw [hg] at h ⊢
  simp only [Option.bind_some] at h ⊢
  have hlt : g < w.heap.size := by
    rcases Nat.lt_or_ge g w.heap.size with h' | h'
    · exact h'
    · rw [Array.getElem?_eq_none h'] at h; cases h
  rw [hb.block g hlt]
  exact h

theorem format_any (n : Int) (w : World) (h0 : -9223372036854775808 ≤ n) (h1 : n ≤ 9223372036854775807) (ht : Pow w) :
    Calls Tryd.prog 13 #[.int .i64 n, .int .i64 10] w fun e w' => e = .returned (.string ⟨(Lib.itoa n).toArray⟩) ∧ Below w.heap.size w w' := by
  refine (Tryd.strconv_FormatInt_10 n h0 h1 w ht).mono ?_
  rintro e w' ⟨rfl, k, os, rfl⟩
  exact ⟨rfl, Lib.below_grow _ w (Nat.le_refl _) k os⟩

/-- The words ahead of the number. -/
def words (d : List UInt8) : List UInt8 := [105, 108, 108, 101, 103, 97, 108, 32, 98, 97, 115, 101] ++ d ++ [32, 100, 97, 116, 97, 32, 97, 116, 32, 105, 110, 112, 117, 116, 32, 98, 121, 116, 101, 32]

def words32 : List UInt8 := words [51, 50]

def words64 : List UInt8 := words [54, 52]

theorem ret_strE {o : ByteArray} {x : List UInt8} (h : o = ⟨x.toArray⟩) : Ending.returned (.string o) = .returned (.string ⟨x.toArray⟩) := by rw [h]

theorem i64_bounds {x : Int} (h : (Lit.int .i64 x).wf = true) : -9223372036854775808 ≤ x ∧ x ≤ 9223372036854775807 := by
  simpa [Lit.wf, IntKind.min, IntKind.max, IntKind.signed, IntKind.bits] using h

theorem ba_size (x : List UInt8) : (⟨x.toArray⟩ : ByteArray).size = x.length := by simp [ByteArray.size]

set_option maxHeartbeats 400000 in
theorem spec_text32 (n : Int) (w : World) (h0 : -9223372036854775808 ≤ n) (h1 : n ≤ 9223372036854775807) :
    Calls Tryd.prog 6 #[.int .i64 n] w fun e w' => e = .returned (.string ⟨(words32 ++ Lib.itoa n).toArray⟩) ∧ Below w.heap.size w w' := by
  obtain ⟨o, ho⟩ : ∃ o : ByteArray, o = ⟨(Lib.itoa n).toArray⟩ := ⟨_, rfl⟩
  have hs : o.size ≤ 21 := by rw [ho, ba_size]; exact Lib.itoa_length_le n h0 h1
  have HO := Lib.hid ho
  clear ho
  go_enter Tryd.func6, Tryd.ntmps6
  go_wp2_with fail
  refine (number_any n _ h0 h1).mono ?_
  rintro e w1 ⟨rfl, hb1⟩
  rw [← HO.out]
  go_wp2
  go_ret
  refine ⟨ret_strE ?_, hb1⟩
  rw [HO.out]
  exact strA words32 _

set_option maxHeartbeats 400000 in
theorem error_text32 (n : Int) (w : World) (h0 : -9223372036854775808 ≤ n) (h1 : n ≤ 9223372036854775807) (ht : Pow w) :
    Calls Tryd.prog 11 #[.int .i64 n] w fun e w' => e = .returned (.string ⟨(words32 ++ Lib.itoa n).toArray⟩) ∧ Below w.heap.size w w' := by
  obtain ⟨o, ho⟩ : ∃ o : ByteArray, o = ⟨(Lib.itoa n).toArray⟩ := ⟨_, rfl⟩
  have hs : o.size ≤ 21 := by rw [ho, ba_size]; exact Lib.itoa_length_le n h0 h1
  have HO := Lib.hid ho
  clear ho
  have HT := Lib.hid ht
  clear ht
  go_enter Tryd.func11, Tryd.ntmps11
  go_wp2_with fail
  refine (format_any n _ h0 h1 HT.out).mono ?_
  rintro e w1 ⟨rfl, hb1⟩
  rw [← HO.out]
  go_wp2
  go_ret
  refine ⟨ret_strE ?_, hb1⟩
  rw [HO.out]
  exact strA words32 _

set_option maxHeartbeats 400000 in
theorem impl_text32 (n : Int) (w : World) (h0 : -9223372036854775808 ≤ n) (h1 : n ≤ 9223372036854775807) (ht : Pow w) :
    Calls Tryd.prog 7 #[.int .i64 n] w fun e w' => e = .returned (.string ⟨(words32 ++ Lib.itoa n).toArray⟩) ∧ Below w.heap.size w w' := by
  have HT := Lib.hid ht
  clear ht
  go_enter Tryd.func7, Tryd.ntmps7
  go_wp2_with fail
  refine (error_text32 n _ h0 h1 HT.out).mono ?_
  rintro e w1 ⟨rfl, hb1⟩
  go_wp2
  go_ret
  exact ⟨rfl, hb1⟩

set_option maxHeartbeats 400000 in
theorem law_FnExactErrorText32 (n : Int) (w : World) (h0 : -9223372036854775808 ≤ n) (h1 : n ≤ 9223372036854775807) (ht : Pow w) :
    Calls Tryd.prog 3 #[.int .i64 n] w fun e w' => e = .returned (.bool true) ∧ Below w.heap.size w w' := by
  have HT := Lib.hid ht
  clear ht
  go_enter Tryd.func3, Tryd.ntmps3
  go_wp2_with fail
  refine (spec_text32 n _ h0 h1).mono ?_
  rintro e w1 ⟨rfl, hb1⟩
  have HT1 : Hid (Pow w1) := HT.out.below hb1
  go_wp2_with fail
  refine (impl_text32 n _ h0 h1 HT1.out).mono ?_
  rintro e w2 ⟨rfl, hb2⟩
  have HB := Lib.hid (below_trans' hb1 hb2)
  clear hb1 hb2
  generalize (⟨(words32 ++ Lib.itoa n).toArray⟩ : ByteArray) = T
  have hT : decide (T = T) = true := decide_eq_true rfl
  go_wp2
  go_ret
  exact ⟨rfl, HB.out⟩

set_option maxHeartbeats 400000 in
theorem spec_text64 (n : Int) (w : World) (h0 : -9223372036854775808 ≤ n) (h1 : n ≤ 9223372036854775807) :
    Calls Tryd.prog 8 #[.int .i64 n] w fun e w' => e = .returned (.string ⟨(words64 ++ Lib.itoa n).toArray⟩) ∧ Below w.heap.size w w' := by
  obtain ⟨o, ho⟩ : ∃ o : ByteArray, o = ⟨(Lib.itoa n).toArray⟩ := ⟨_, rfl⟩
  have hs : o.size ≤ 21 := by rw [ho, ba_size]; exact Lib.itoa_length_le n h0 h1
  have HO := Lib.hid ho
  clear ho
  go_enter Tryd.func8, Tryd.ntmps8
  go_wp2_with fail
  refine (number_any n _ h0 h1).mono ?_
  rintro e w1 ⟨rfl, hb1⟩
  rw [← HO.out]
  go_wp2
  go_ret
  refine ⟨ret_strE ?_, hb1⟩
  rw [HO.out]
  exact strA words64 _

set_option maxHeartbeats 400000 in
theorem error_text64 (n : Int) (w : World) (h0 : -9223372036854775808 ≤ n) (h1 : n ≤ 9223372036854775807) (ht : Pow w) :
    Calls Tryd.prog 12 #[.int .i64 n] w fun e w' => e = .returned (.string ⟨(words64 ++ Lib.itoa n).toArray⟩) ∧ Below w.heap.size w w' := by
  obtain ⟨o, ho⟩ : ∃ o : ByteArray, o = ⟨(Lib.itoa n).toArray⟩ := ⟨_, rfl⟩
  have hs : o.size ≤ 21 := by rw [ho, ba_size]; exact Lib.itoa_length_le n h0 h1
  have HO := Lib.hid ho
  clear ho
  have HT := Lib.hid ht
  clear ht
  go_enter Tryd.func12, Tryd.ntmps12
  go_wp2_with fail
  refine (format_any n _ h0 h1 HT.out).mono ?_
  rintro e w1 ⟨rfl, hb1⟩
  rw [← HO.out]
  go_wp2
  go_ret
  refine ⟨ret_strE ?_, hb1⟩
  rw [HO.out]
  exact strA words64 _

set_option maxHeartbeats 400000 in
theorem impl_text64 (n : Int) (w : World) (h0 : -9223372036854775808 ≤ n) (h1 : n ≤ 9223372036854775807) (ht : Pow w) :
    Calls Tryd.prog 9 #[.int .i64 n] w fun e w' => e = .returned (.string ⟨(words64 ++ Lib.itoa n).toArray⟩) ∧ Below w.heap.size w w' := by
  have HT := Lib.hid ht
  clear ht
  go_enter Tryd.func9, Tryd.ntmps9
  go_wp2_with fail
  refine (error_text64 n _ h0 h1 HT.out).mono ?_
  rintro e w1 ⟨rfl, hb1⟩
  go_wp2
  go_ret
  exact ⟨rfl, hb1⟩

set_option maxHeartbeats 400000 in
theorem law_FnExactErrorText64 (n : Int) (w : World) (h0 : -9223372036854775808 ≤ n) (h1 : n ≤ 9223372036854775807) (ht : Pow w) :
    Calls Tryd.prog 4 #[.int .i64 n] w fun e w' => e = .returned (.bool true) ∧ Below w.heap.size w w' := by
  have HT := Lib.hid ht
  clear ht
  go_enter Tryd.func4, Tryd.ntmps4
  go_wp2_with fail
  refine (spec_text64 n _ h0 h1).mono ?_
  rintro e w1 ⟨rfl, hb1⟩
  have HT1 : Hid (Pow w1) := HT.out.below hb1
  go_wp2_with fail
  refine (impl_text64 n _ h0 h1 HT1.out).mono ?_
  rintro e w2 ⟨rfl, hb2⟩
  have HB := Lib.hid (below_trans' hb1 hb2)
  clear hb1 hb2
  generalize (⟨(words64 ++ Lib.itoa n).toArray⟩ : ByteArray) = T
  have hT : decide (T = T) = true := decide_eq_true rfl
  go_wp2
  go_ret
  exact ⟨rfl, HB.out⟩

end Go.Proofs.YtejkphobeclefaaDoor
