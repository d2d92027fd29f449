/-
  Contracts of base64's DecodeString and of the thin package's end64 and Decode64: the bytes, the verdict and the number of the error. Conditions: the alphabet and the padding are valid; strings of at most 2 ^ 47 - 4096 bytes.
-/
import Derived.Test.YtkiipbpcaakkoaaD64D
import Derived.Test.YtkiipbpcaakkoaaDecD
namespace Go.Proofs.Ytkiipbpcaakkoaa
open Go.RowKit
set_option linter.unusedVariables false

set_option maxHeartbeats 400000 in
theorem end64_any (R : Option Int) (w : World) :
    Calls Try.prog 25 #[errV 64 R] w fun e w' => e = .returned (.tuple #[.bool (okOf R), .int .i64 (numOf R)]) ∧ w = w' := by
  cases R with
  | none =>
    simp only [errV]
    go_enter Try.func25, Try.ntmps25
    go_wp2
    go_ret2
    exact ⟨rfl, rfl⟩
  | some e =>
    simp only [errV]
    have has : (Instr.typeAssert (.iface 64 (.int .i64 e)) 42 64 true).run Try.prog w = .ok (.tuple #[.int .i64 e, .bool true]) w := by kernel_rfl
    go_enter Try.func25, Try.ntmps25
    go_wp2
    go_ret2
    exact ⟨rfl, rfl⟩

theorem decLen64_room (p : Int) (n : Nat) : decLen64 p (n : Int) = ((roomN p n : Nat) : Int) := by
  unfold decLen64 roomN
  split <;> omega

theorem dec_le (a : List UInt8) (p : Int) (st : Bool) (src : List UInt8) : (decOf a p st src).1.length ≤ roomN p src.length := by
  have := (dec_room a p st src src.length 0 (by omega)).1
  simpa [decOf] using this
theorem roomN_small (p : Int) (n : Nat) : roomN p n ≤ n := by unfold roomN; split <;> omega
theorem roomN_fits (p : Int) (n : Nat) (h : n ≤ 375299968947541) : roomN p n ≤ 281474976710656 := by unfold roomN; split <;> omega

set_option maxHeartbeats 1000000 in
theorem decodeString64 (ge : Nat) (a : List UInt8) (p : Int) (st : Bool) (s : ByteArray) (w : World)
    (he : Blk w ge 74 (encTo a 64 [.int .i32 p, .bool st])) (hv : validP 6 a p) (hs : s.size ≤ 375299968947541) :
    Calls Try.prog 24 #[.pointer (some ⟨ge, 0, none⟩), .string s] w (StrPost 64 (decOf a p st s.data.toList) w) := by
  have HE := Lib.hid he
  have HV := Lib.hid hv
  have hp1 := hv.2.1
  have hp2 := hv.2.2.1
  have HX := Lib.hid (decLen64_room p s.size)
  have hL : s.data.toList.length = s.size := by simp
  have HLs := Lib.hid hL
  have hR := roomN_small p s.size
  have hRf := roomN_fits p s.size hs
  have hd1 := dec_le a p st s.data.toList
  have hd0 := dec_le a p false s.data.toList
  rw [hL] at hd1 hd0
  obtain ⟨N, hNe⟩ : ∃ N, N = roomN p s.size := ⟨_, rfl⟩
  rw [← hNe] at hR hRf hd1 hd0
  have HNe := Lib.hid hNe
  clear hNe he hv hL
  go_enter Try.func24, Try.ntmps24
  go_wp2_with fail
  refine (decodedLen64_any ge a p (s.size : Int) st _ HE.out HV.out.1 (by omega) (by omega)).mono ?_
  rintro e w1 ⟨rfl, rfl⟩
  rw [HX.out, ← HNe.out]
  go_wp2_with (first
    | ((with_reducible refine wpList_make_bytes rfl 22 _ _ rfl 5 Try.underlying22 byteInfo N ?_ ?_ ?_ ?_); omega; rfl; rfl; intro w1 hb1 he1
       have hcv := conv_bytes (P := Try.prog) w1 9 22 5 s Try.underlying9 Try.underlying22 Try.underlying5 (by omega)
       obtain ⟨c, w2, hc1, hc2, hcv, hbw, hsz, cs, hbl, hcl, htk⟩ := hcv
       have HW1 : Hid (Below w.heap.size w w1) := by have := (Below.refl w.heap.size w).alloc (Nat.le_refl _) (.cells (List.replicate N (Value.int .u8 0)).toArray 5); rw [← he1.out] at this; exact this
       have HS1 : Hid (w1.heap.size = w.heap.size + 1) := by show _ = _; rw [he1.out]; simp
       have HE1 : Hid (Blk w1 ge 74 (encTo a 64 [.int .i32 p, .bool st])) := HE.out.below HW1.out HE.out.lt
       have HBW := Lib.hid hbw
       have HBL := Lib.hid hbl
       have HCL := Lib.hid hcl
       have HTK := Lib.hid htk
       clear he1 hbw hsz hbl hcl htk)
    | fail)
  have hgl := hb1.out.lt
  have HB2 : Hid (Blk w2 w.heap.size 5 (List.replicate N (Value.int .u8 0))) := hb1.out.below HBW.out hgl
  have HE2 : Hid (Blk w2 ge 74 (encTo a 64 [.int .i32 p, .bool st])) := HE1.out.below HBW.out HE1.out.lt
  have hge : ge ≠ w.heap.size := fun h => by have := HE.out.lt; omega
  have HRD : Hid (Rd w2 w.heap.size (some ⟨w1.heap.size, 0, none⟩) s.data.toList) := fun hp => by
    refine ⟨w1.heap.size, 0, rfl, by have := HS1.out; omega, fun j x hj => ?_⟩
    rw [Nat.zero_add, HBL.out.cell]
    have h5 := byteCells_at _ j x hj
    rw [← HTK.out, List.getElem?_take] at h5
    split at h5
    · exact h5
    · cases h5
  have hdd := decode64_any ge w.heap.size 0 0 N N c 5 a p st (some ⟨w1.heap.size, 0, none⟩) s.data.toList (List.replicate N (Value.int .u8 0)) w2 HE2.out HV.out.1 hp1 hp2 (nl_not HV.out) hge HB2.out (fun _ => rfl) (by simp) (Nat.le_refl _) (by unfold maxLen; omega) hd0 HRD.out (by rw [HLs.out]; exact hc1) hc2
  rw [HLs.out] at hdd
  refine hdd.mono ?_
  rintro e w3 ⟨rfl, hwr⟩
  obtain ⟨cur', u1, u2, u3, u4, u5, u6⟩ := hwr
  have HBY : Hid (Bys w3 (.slice (some ⟨w.heap.size, 0, none⟩) (decOf a p st s.data.toList).1.length N) (decOf a p st s.data.toList).1) := Bys.of_blk u1 0 N _ hd1 (by unfold maxLen; omega) u3
  have HB3 : Hid (Below w.heap.size w w3) := (HW1.out.trans (HBW.out.mono HW1.out.size)).trans (grown_below u5 (Nat.le_refl _) (Nat.le_trans HW1.out.size HBW.out.size))
  clear hdd u1 u2 u3 u4 u5 u6 hcv
  generalize decOf a p st s.data.toList = R at *
  obtain ⟨bs, err⟩ := R
  simp only at hd1 HBY ⊢
  go_wp2
  go_ret2
  exact ⟨_, _, rfl, HBY.out, HB3.out⟩

set_option maxHeartbeats 400000 in
theorem decode64W (s : ByteArray) (p : Int) (st : Bool) (t : ByteArray) (w : World) (hv : validP 6 s.data.toList p) (ht : t.size ≤ 375299968947541) :
    Calls Try.prog 14 #[.string s, .int .i64 p, .bool st, .string t] w (DecPost (decOf s.data.toList p st t.data.toList) w) := by
  have HV := Lib.hid hv
  clear hv
  go_enter Try.func14, Try.ntmps14
  go_wp2_with fail
  refine (encoding64 s p st _ HV.out).mono ?_
  rintro e w1 ⟨g, rfl, hg, hb, hw⟩
  have HB := Lib.hid hb
  have HW := Lib.hid hw
  clear hb hw
  go_wp2_with fail
  refine (decodeString64 g _ p st t _ HB.out HV.out ht).mono ?_
  rintro e w2 ⟨g2, c2, rfl, hy, hb2⟩
  have HY := Lib.hid hy
  have HB2 := Lib.hid (below_trans' HW.out hb2)
  clear hy hb2
  go_wp2_with fail
  refine (end64_any _ _).mono ?_
  rintro e w3 ⟨rfl, rfl⟩
  go_wp2
  go_ret3
  exact ⟨_, _, rfl, HY.out, HB2.out⟩

theorem decode64I (s : ByteArray) (p : Int) (st : Bool) (t : ByteArray) (w : World) (hv : validP 6 s.data.toList p) (ht : t.size ≤ 281474976710656) :
    Calls Try.prog 14 #[.string s, .int .i64 p, .bool st, .string t] w (DecPost (decOf s.data.toList p st t.data.toList) w) :=
  decode64W s p st t w hv (Nat.le_trans ht (by decide))

end Go.Proofs.Ytkiipbpcaakkoaa
