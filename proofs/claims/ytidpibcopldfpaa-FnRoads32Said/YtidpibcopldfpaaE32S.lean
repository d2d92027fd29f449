/-
  Contracts of base32's EncodeToString and of the thin package's Encode32: the text of some bytes. Conditions: the alphabet and the padding are valid; at most 2 ^ 47 - 4096 bytes.
-/
import Derived.Test.YtidpibcopldfpaaE32
import Derived.Test.YtidpibcopldfpaaHelp
namespace Go.Proofs.Ytidpibcopldfpaa
open Go.RowKit

theorem encLen32_lenN (p : Int) (n : Nat) (hp : -1 ≤ p) : encLen32 p (n : Int) = ((lenN 5 p n : Nat) : Int) := by
  unfold encLen32 lenN padN
  rw [show grpN 5 = 8 from rfl]
  unfold charsN
  by_cases h1 : p = -1
  · rw [if_pos h1, if_pos (by omega)]; omega
  · rw [if_neg h1, if_neg (by omega)]; omega

theorem lenN5_le (p : Int) (n : Nat) : lenN 5 p n ≤ n / 5 * 8 + 8 := by
  unfold lenN padN
  rw [show grpN 5 = 8 from rfl]
  unfold charsN
  split <;> omega

set_option maxHeartbeats 1000000 in
theorem encodeToString32 (ge : Nat) (a : List UInt8) (p : Int) (v : Value) (l : List UInt8) (w : World)
    (he : Blk w ge 51 (encTo a 32 [.int .i32 p])) (hz : a.length = 32) (hp1 : -1 ≤ p) (hp2 : p ≤ 255)
    (hs : Bys w v l) (hl : l.length ≤ 140737488351232) :
    Calls Try.prog 25 #[.pointer (some ⟨ge, 0, none⟩), v] w fun e w' => e = .returned (.string ⟨(textOf 5 a p l).toArray⟩) ∧ Below w.heap.size w w' := by
  have HE := Lib.hid he
  have HZ := Lib.hid hz
  have HS := Lib.hid hs
  have HX := Lib.hid (encLen32_lenN p l.length hp1)
  have hN := lenN5_le p l.length
  have HT := Lib.hid (textOf_length5 a p l)
  clear he hz
  obtain ⟨A, c, rfl, hc, hcm, _⟩ := hs
  obtain ⟨N, hNe⟩ : ∃ N, N = lenN 5 p l.length := ⟨_, rfl⟩
  rw [← hNe] at hN
  have HNe := Lib.hid hNe
  clear hNe
  have HCM := Lib.hid hcm
  unfold maxLen at hcm
  go_enter Try.func25, Try.ntmps25
  go_wp2_with fail
  refine (encodedLen32_any ge a p (l.length : Int) _ HE.out HZ.out (by omega) (by omega)).mono ?_
  rintro e w1 ⟨rfl, rfl⟩
  rw [HX.out, ← HNe.out]
  go_wp2_with ((with_reducible refine wpList_make_bytes rfl 22 _ _ rfl 5 Try.underlying22 byteInfo N ?_ ?_ ?_ ?_); omega; rfl; rfl; intro w1 hb1 he1)
  have hge : ge ≠ w.heap.size := fun h => by have := HE.out.lt; omega
  have HE1 : Hid (Blk w1 ge 51 (encTo a 32 [.int .i32 p])) := by have := HE.out.alloc (.cells (List.replicate N (Value.int .u8 0)).toArray 5); rw [← he1.out] at this; exact this
  have HW1 : Hid (Below w.heap.size w w1) := by have := (Below.refl w.heap.size w).alloc (Nat.le_refl _) (.cells (List.replicate N (Value.int .u8 0)).toArray 5); rw [← he1.out] at this; exact this
  refine (encode32_any ge w.heap.size 0 N N c 5 a p _ A l _ w1 HE1.out HZ.out hp1 hp2 hge hb1.out (fun _ => rfl) (by simp) (by rw [HNe.out]; exact Nat.le_refl _) (Nat.le_refl _) (by unfold maxLen; omega) ?_ hc HCM.out).mono ?_
  · exact (HS.out.rd (Nat.le_refl _)).below HW1.out
  rintro e w2 ⟨rfl, hb2, hg2⟩
  have hlen : (Lib.byteCells (textOf 5 a p l)).length = N := by rw [Lib.byteCells_length, HT.out, HNe.out]
  rw [splice_all _ _ (by rw [hlen, List.length_replicate])] at hb2
  have hby : Bys w2 (.slice (some ⟨w.heap.size, 0, none⟩) N N) (textOf 5 a p l) := by
    have := Bys.of_blk hb2 0 N (textOf 5 a p l) (by rw [HT.out, ← HNe.out]; exact Nat.le_refl _) (by unfold maxLen; omega) (fun j x hj => by rw [Nat.zero_add]; exact byteCells_at _ _ _ hj)
    rw [HT.out, ← HNe.out] at this
    exact this
  have hcv := run_to_string (P := Try.prog) (w := w2) 22 5 9 Try.underlying22 Try.underlying5 Try.underlying9 _ _ hby
  have HG2 : Hid (Below w.heap.size w w2) := HW1.out.trans (grown_below hg2 (Nat.le_refl _) HW1.out.size)
  clear hb2 hg2 hby hlen
  go_wp2
  go_ret
  exact ⟨rfl, HG2.out⟩

set_option maxHeartbeats 400000 in
theorem encode32I (s : ByteArray) (p : Int) (v : Value) (l : List UInt8) (w : World) (hv : validP 5 s.data.toList p) (hs : Bys w v l) (hl : l.length ≤ 140737488351232) :
    Calls Try.prog 13 #[.string s, .int .i64 p, v] w fun e w' => e = .returned (.string ⟨(textOf 5 s.data.toList p l).toArray⟩) ∧ Below w.heap.size w w' := by
  have HV := Lib.hid hv
  have HS := Lib.hid hs
  clear hv hs
  go_enter Try.func13, Try.ntmps13
  go_wp2_with fail
  refine (encoding32 s p _ HV.out).mono ?_
  rintro e w1 ⟨g, rfl, hg, hb, hw⟩
  have HB := Lib.hid hb
  have HW := Lib.hid hw
  clear hb hw
  go_wp2_with fail
  refine (encodeToString32 g _ p v l _ HB.out HV.out.1 HV.out.2.1 HV.out.2.2.1 (HS.out.below HW.out) hl).mono ?_
  rintro e w2 ⟨rfl, hw2⟩
  have HW2 := Lib.hid hw2
  clear hw2
  go_wp2
  go_ret
  exact ⟨rfl, below_trans' HW.out HW2.out⟩

end Go.Proofs.Ytidpibcopldfpaa
