/-
  Contracts of the reference's functions Stripped, Whole, Begins, Values: what each returns. Conditions: strings of at most 2 ^ 45 bytes; for Values letters of the alphabet alone.
-/
import Derived.Test.YtkiipbpcaakkoaaSpecT
import Derived.Test.YtkiipbpcaakkoaaVals
import Derived.Test.YtkiipbpcaakkoaaLawsB
namespace Go.Proofs.Ytkiipbpcaakkoaa
open Go.RowKit

theorem str_take_snoc (s : ByteArray) (k : Nat) (h : k < s.size) : s.data.toList.take (k + 1) = s.data.toList.take k ++ [s[k]] := by
  rw [List.take_succ_eq_append_getElem (by simpa using h)]; rfl
theorem isNL_int (c : UInt8) : (((c.toNat : Int) == 13) || ((c.toNat : Int) == 10)) = isNL c := by
  unfold isNL
  rw [Bool.eq_iff_iff]
  simp
  omega
theorem strip_le (s : List UInt8) : (strip s).length ≤ s.length := List.length_filter_le _ _

set_option maxHeartbeats 1000000 in
theorem stripped_any (s : ByteArray) (w : World) (hs : s.size ≤ 140737488351232) :
    Calls Try.prog 10 #[.string s] w fun e w' => e = .returned (.string ⟨(strip s.data.toList).toArray⟩) ∧ Below w.heap.size w w' := by
  obtain ⟨i0, hi, hz0, hz1', hz2'⟩ := info_parts byteInfo'
  have HLs : Hid (s.data.toList.length = s.size) := by show _ = _; simp
  go_enter Try.func10, Try.ntmps10
  go_wp2
  go_loopw [3, 4] (fun v i wr => ∃ k n : Nat, k ≤ s.size ∧ n ≤ k ∧ i = .int .i64 k ∧ Hid (n = (strip (s.data.toList.take k)).length) ∧ Hid (wr.ownsRow w.heap.size 5 1 v n (Lib.byteCells (strip (s.data.toList.take k)))) ∧ Hid (Below w.heap.size w wr)) (fun _ i _ => s.size - (intOf i).toNat)
  case atStart => exact ⟨0, 0, Nat.zero_le _, Nat.le_refl _, rfl, rfl, (owns_start (q := 0) : _), (Below.refl _ w).alloc (Nat.le_refl _) _⟩
  case round =>
    obtain ⟨k, n, hk, hnk, rfl, hn, hown, hbel⟩ := hrel
    by_cases hlt : k < s.size
    · have HSN := Lib.hid (str_take_snoc s k hlt)
      cases hc : isNL s[k]
      · have hc' : (((s[k].toNat : Int) == 13) || ((s[k].toNat : Int) == 10)) = false := by rw [isNL_int]; exact hc
        have HC := Lib.hid hc
        have HC' := Lib.hid hc'
        clear hc hc'
        go_wp2_with fail
        refine (newline_any _ _).mono ?_
        rintro e w' ⟨rfl, rfl⟩
        rw [HC'.out]
        go_wp2_with (first
          | (at_builtin
             refine wpList_append_own _ rfl _ _ 22 rfl w.heap.size 5 i0 (.int .u8 0) 1 1 Try.underlying22 hi hz0 hz1' hz2' rfl (by decide) _ _ _ rfl (hown.out.alloc _) ⟨wr.heap.size, 0, none⟩ 1 1 [.int .u8 (s[k].toNat : Int)] rfl rfl (cell_one_new _ _ _) (by intro u hu; simp at hu; subst hu; rfl) (by unfold maxLen; omega) (by omega) (by have := hbel.out.size; simp; omega) ?_
             intro v' w1 hown' hgrow _)
          | fail)
        go_roundw
        case rel =>
          have e : strip (s.data.toList.take (k + 1)) = strip (s.data.toList.take k) ++ [s[k]] := by rw [HSN.out, strip_append, strip_cons HC.out]; rfl
          refine ⟨k + 1, n + 1, by omega, by omega, by go_num, ?_, ?_, append_step hbel.out hbel.out.size hown.out hgrow⟩
          · show _ = _
            rw [e, List.length_append, ← hn.out]; rfl
          · rw [e, Lib.byteCells_append]
            exact hown'
        case measure => simp [intOf]; omega
      · have hc' : (((s[k].toNat : Int) == 13) || ((s[k].toNat : Int) == 10)) = true := by rw [isNL_int]; exact hc
        have HC := Lib.hid hc
        have HC' := Lib.hid hc'
        clear hc hc'
        go_wp2_with fail
        refine (newline_any _ _).mono ?_
        rintro e w' ⟨rfl, rfl⟩
        rw [HC'.out]
        go_wp2
        go_roundw
        case rel =>
          have e : strip (s.data.toList.take (k + 1)) = strip (s.data.toList.take k) := by rw [HSN.out, strip_append, strip_cons_nl HC.out]; simp [strip]
          exact ⟨k + 1, n, by omega, by omega, by go_num, by rw [e]; exact hn, by rw [e]; exact hown, hbel⟩
        case measure => simp [intOf]; omega
    · have hby := owns_bys hown.out
      rw [List.take_of_length_le (by rw [HLs.out]; omega)] at hby
      have hcv := run_to_string (P := Try.prog) (w := wr) 22 5 9 Try.underlying22 Try.underlying5 Try.underlying9 _ _ hby
      clear hby
      go_wp2
      go_ret
      exact ⟨rfl, hbel.out⟩

theorem vcase6_0 (h v : Nat) (hh : h < 1) (hv : v < 64) : bits BinOp.or IntKind.i64 ((h : Int) * 64) (v : Int) = ((h * 64 + v : Nat) : Int) := by
  have := or_i64 h v 6 (by omega) (by omega) (by omega)
  simpa using this
theorem vcase6_2 (h v : Nat) (hh : h < 4) (hv : v < 64) : bits BinOp.or IntKind.i64 ((h : Int) * 64) (v : Int) = ((h * 64 + v : Nat) : Int) := by
  have := or_i64 h v 6 (by omega) (by omega) (by omega)
  simpa using this
theorem vmask6_2 (H : Nat) (hh : H < 256) : bits BinOp.and IntKind.i64 (H : Int) 0 = ((H % 1 : Nat) : Int) := by
  have := and_i64_mask H 0 (by omega) (by omega)
  simpa using this
theorem vcase6_4 (h v : Nat) (hh : h < 16) (hv : v < 64) : bits BinOp.or IntKind.i64 ((h : Int) * 64) (v : Int) = ((h * 64 + v : Nat) : Int) := by
  have := or_i64 h v 6 (by omega) (by omega) (by omega)
  simpa using this
theorem vmask6_4 (H : Nat) (hh : H < 1024) : bits BinOp.and IntKind.i64 (H : Int) 3 = ((H % 4 : Nat) : Int) := by
  have := and_i64_mask H 2 (by omega) (by omega)
  simpa using this
theorem vcase6_6 (h v : Nat) (hh : h < 64) (hv : v < 64) : bits BinOp.or IntKind.i64 ((h : Int) * 64) (v : Int) = ((h * 64 + v : Nat) : Int) := by
  have := or_i64 h v 6 (by omega) (by omega) (by omega)
  simpa using this
theorem vmask6_6 (H : Nat) (hh : H < 4096) : bits BinOp.and IntKind.i64 (H : Int) 15 = ((H % 16 : Nat) : Int) := by
  have := and_i64_mask H 4 (by omega) (by omega)
  simpa using this

theorem vcase5_0 (h v : Nat) (hh : h < 1) (hv : v < 32) : bits BinOp.or IntKind.i64 ((h : Int) * 32) (v : Int) = ((h * 32 + v : Nat) : Int) := by
  have := or_i64 h v 5 (by omega) (by omega) (by omega)
  simpa using this
theorem vcase5_1 (h v : Nat) (hh : h < 2) (hv : v < 32) : bits BinOp.or IntKind.i64 ((h : Int) * 32) (v : Int) = ((h * 32 + v : Nat) : Int) := by
  have := or_i64 h v 5 (by omega) (by omega) (by omega)
  simpa using this
theorem vcase5_2 (h v : Nat) (hh : h < 4) (hv : v < 32) : bits BinOp.or IntKind.i64 ((h : Int) * 32) (v : Int) = ((h * 32 + v : Nat) : Int) := by
  have := or_i64 h v 5 (by omega) (by omega) (by omega)
  simpa using this
theorem vcase5_3 (h v : Nat) (hh : h < 8) (hv : v < 32) : bits BinOp.or IntKind.i64 ((h : Int) * 32) (v : Int) = ((h * 32 + v : Nat) : Int) := by
  have := or_i64 h v 5 (by omega) (by omega) (by omega)
  simpa using this
theorem vmask5_3 (H : Nat) (hh : H < 256) : bits BinOp.and IntKind.i64 (H : Int) 0 = ((H % 1 : Nat) : Int) := by
  have := and_i64_mask H 0 (by omega) (by omega)
  simpa using this
theorem vcase5_4 (h v : Nat) (hh : h < 16) (hv : v < 32) : bits BinOp.or IntKind.i64 ((h : Int) * 32) (v : Int) = ((h * 32 + v : Nat) : Int) := by
  have := or_i64 h v 5 (by omega) (by omega) (by omega)
  simpa using this
theorem vmask5_4 (H : Nat) (hh : H < 512) : bits BinOp.and IntKind.i64 (H : Int) 1 = ((H % 2 : Nat) : Int) := by
  have := and_i64_mask H 1 (by omega) (by omega)
  simpa using this
theorem vcase5_5 (h v : Nat) (hh : h < 32) (hv : v < 32) : bits BinOp.or IntKind.i64 ((h : Int) * 32) (v : Int) = ((h * 32 + v : Nat) : Int) := by
  have := or_i64 h v 5 (by omega) (by omega) (by omega)
  simpa using this
theorem vmask5_5 (H : Nat) (hh : H < 1024) : bits BinOp.and IntKind.i64 (H : Int) 3 = ((H % 4 : Nat) : Int) := by
  have := and_i64_mask H 2 (by omega) (by omega)
  simpa using this
theorem vcase5_6 (h v : Nat) (hh : h < 64) (hv : v < 32) : bits BinOp.or IntKind.i64 ((h : Int) * 32) (v : Int) = ((h * 32 + v : Nat) : Int) := by
  have := or_i64 h v 5 (by omega) (by omega) (by omega)
  simpa using this
theorem vmask5_6 (H : Nat) (hh : H < 2048) : bits BinOp.and IntKind.i64 (H : Int) 7 = ((H % 8 : Nat) : Int) := by
  have := and_i64_mask H 3 (by omega) (by omega)
  simpa using this
theorem vcase5_7 (h v : Nat) (hh : h < 128) (hv : v < 32) : bits BinOp.or IntKind.i64 ((h : Int) * 32) (v : Int) = ((h * 32 + v : Nat) : Int) := by
  have := or_i64 h v 5 (by omega) (by omega) (by omega)
  simpa using this
theorem vmask5_7 (H : Nat) (hh : H < 4096) : bits BinOp.and IntKind.i64 (H : Int) 15 = ((H % 16 : Nat) : Int) := by
  have := and_i64_mask H 4 (by omega) (by omega)
  simpa using this

end Go.Proofs.Ytkiipbpcaakkoaa
