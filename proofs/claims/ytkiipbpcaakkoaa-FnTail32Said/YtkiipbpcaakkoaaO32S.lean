/-
  Contracts of base32's stripNewlines and DecodeString, and of the thin package's Decode32: the bytes of a text and the number of the error. Conditions: the alphabet and the padding are valid; at most 2 ^ 48 bytes.
-/
import Derived.Test.YtkiipbpcaakkoaaO32D
import Derived.Test.YtkiipbpcaakkoaaDecD
namespace Go.Proofs.Ytkiipbpcaakkoaa
open Go.RowKit
set_option linter.unusedVariables false

theorem strip_take_nl {src : List UInt8} {k : Nat} {c : UInt8} (hc : src[k]? = some c) (h : isNL c = true) : strip (src.take (k + 1)) = strip (src.take k) := by
  rw [take_one _ _ _ hc, strip_append]
  simp [strip, h]
theorem strip_take_one {src : List UInt8} {k : Nat} {c : UInt8} (hc : src[k]? = some c) (h : isNL c = false) : strip (src.take (k + 1)) = strip (src.take k) ++ [c] := by
  rw [take_one _ _ _ hc, strip_append]
  simp [strip, h]

theorem Wr32.one {g o n : Nat} {t : TypeId} {cur cur1 : List Value} {w wr : World} {ds : List UInt8} {c : UInt8} (hdl : ds.length = n) (b1 : Blm wr g t cur1) (h1 : cur1.length = cur.length) (h2 : ∀ (j : Nat) (x : UInt8), ds[j]? = some x → cur1[o + j]? = some (.int .u8 (x.toNat : Int))) (h3 : ∀ i, i < o ∨ o + ds.length ≤ i → cur1[i]? = cur[i]?) (hg : w.grownBy wr (some g)) (hf : o + n < cur1.length) :
    Wr32 g o t cur w (ds ++ [c]) (wr.setCell ⟨g, o + n, none⟩ (.int .u8 (c.toNat : Int))) := by
  subst hdl
  refine Wr32.put h1 h2 h3 hg (b1.set_ _ _) (by simp) (fun j x hj => ?_) (fun i hi => ?_) (grown_set (grown_refl _ _) _ _)
  · cases j with
    | zero =>
      simp only [List.getElem?_cons_zero, Option.some.injEq] at hj
      subst hj
      rw [Nat.add_zero, List.getElem?_set_self hf]
    | succ j => simp at hj
  · rw [List.getElem?_set_ne (by simp at hi; omega)]

set_option maxHeartbeats 1000000 in
theorem strip32 (g o m mc c b off : Nat) (t : TypeId) (A : Option Addr) (src : List UInt8) (cur : List Value) (w : World)
    (hb : Blm w g t cur) (hfit : o + m ≤ cur.length) (hm : src.length ≤ m) (hmc : m ≤ mc) (hmx : mc ≤ maxLen)
    (hA : 0 < src.length → A = some ⟨b, off, none⟩) (hs : Rs32 w g o b off src) (hc : src.length ≤ c) (hcx : c ≤ maxLen) :
    Calls Try.prog 28 #[.slice (some ⟨g, o, none⟩) m mc, .slice A src.length c] w fun e w' => e = .returned (.int .i64 ((strip src).length : Int)) ∧ Wr32 g o t cur w (strip src) w' := by
  unfold maxLen at hmx hcx
  have HB := Lib.hid hb
  have HS := Lib.hid hs
  have HA := Lib.hid hA
  clear hb hs hA
  obtain ⟨N, hN⟩ : ∃ N, N = src.length := ⟨_, rfl⟩
  rw [← hN] at hc hm ⊢
  have HN := Lib.hid hN
  clear hN
  go_enter Try.func28, Try.ntmps28
  go_wp2_with fail
  go_loopw [5, 10] (fun s5 s10 wr => ∃ k n : Nat, k ≤ N ∧ n ≤ k ∧ s5 = .int .i64 (n : Int) ∧ s10 = .int .i64 (k : Int) ∧ Hid ((strip (src.take k)).length = n) ∧ Hid (Wr32 g o t cur w (strip (src.take k)) wr)) (fun _ s10 _ => N - (intOf s10).toNat)
  case atStart => exact ⟨0, 0, Nat.zero_le _, Nat.le_refl _, rfl, rfl, rfl, Wr32.start HB.out⟩
  case round =>
    obtain ⟨k, n, hk, hnk, rfl, rfl, HL, HW⟩ := hrel
    by_cases hkN : k < N
    · obtain ⟨c0, hc0⟩ : ∃ c0, src[k]? = some c0 := ⟨_, List.getElem?_eq_getElem (by rw [← HN.out]; exact hkN)⟩
      have hA2 := HA.out (by rw [← HN.out]; omega)
      subst hA2
      have hcell : wr.cell? ⟨b, off + k, none⟩ = some (.int .u8 (c0.toNat : Int)) := Rs32.now HS.out HB.out HW.out k (by rw [HL.out]; exact hnk) c0 hc0
      have hcb := c0.toNat_lt
      rcases nl_cases c0 with ⟨h1, h2⟩ | ⟨h1, h2, h3⟩ | ⟨h1, h2, h3⟩
      · have hs1 := strip_take_nl hc0 h1
        have HS1 := Lib.hid hs1
        have h13 : ((c0.toNat : Int) == 13) = false := by rw [beq_eq_false_iff_ne]; have := eq_of_beq h2; omega
        clear hs1 hc0 h1
        go_wp2
        go_roundw
        case rel => exact ⟨k + 1, n, by omega, by omega, rfl, by go_num, by rw [HS1.out]; exact HL, by rw [HS1.out]; exact HW⟩
        case measure => simp [intOf]; omega
      · have hs1 := strip_take_nl hc0 h1
        have HS1 := Lib.hid hs1
        clear hs1 hc0 h1
        go_wp2
        go_roundw
        case rel => exact ⟨k + 1, n, by omega, by omega, rfl, by go_num, by rw [HS1.out]; exact HL, by rw [HS1.out]; exact HW⟩
        case measure => simp [intOf]; omega
      · have hs1 := strip_take_one hc0 h1
        have HS1 := Lib.hid hs1
        obtain ⟨cur1, b1, c1, q1, q2, g1⟩ := HW.out
        obtain ⟨u, hu⟩ : ∃ u, wr.cell? ⟨g, o + n, none⟩ = some u := ⟨_, (b1.cell _).trans (List.getElem?_eq_getElem (by omega))⟩
        have hz : wr.frozen? ⟨g, o + n, none⟩ = false := b1.frozen _ (by omega)
        have HW2 := Lib.hid (Wr32.one (c := c0) HL.out b1 c1 q1 q2 g1 (by omega))
        clear hs1 hc0 h1 b1 c1 q1 q2 g1
        go_wp2
        go_roundw
        case rel => exact ⟨k + 1, n + 1, by omega, by omega, by go_num, by go_num, by show _ = _; rw [HS1.out, List.length_append, HL.out]; rfl, by rw [HS1.out]; exact HW2⟩
        case measure => simp [intOf]; omega
    · have HT : Hid (src.take k = src) := List.take_of_length_le (by rw [← HN.out]; omega)
      have hlt : decide (k < N) = false := by simpa using hkN
      go_wp2
      go_ret
      refine ⟨ret_int (by rw [← HL.out, HT.out]), ?_⟩
      have := HW.out
      rw [HT.out] at this
      exact this

set_option maxHeartbeats 400000 in
theorem end32_any (R : Option Int) (w : World) :
    Calls Try.prog 22 #[errV 56 R] w fun e w' => e = .returned (.tuple #[.bool (okOf R), .int .i64 (numOf R)]) ∧ w = w' := by
  cases R with
  | none =>
    simp only [errV]
    go_enter Try.func22, Try.ntmps22
    go_wp2
    go_ret2
    exact ⟨rfl, rfl⟩
  | some e =>
    simp only [errV]
    have has : (Instr.typeAssert (.iface 56 (.int .i64 e)) 42 56 true).run Try.prog w = .ok (.tuple #[.int .i64 e, .bool true]) w := by kernel_rfl
    go_enter Try.func22, Try.ntmps22
    go_wp2
    go_ret2
    exact ⟨rfl, rfl⟩

theorem dec32_le (a : List UInt8) (p : Int) (s : List UInt8) : (dec32 a p s).1.length ≤ roomN5 p (strip s).length ∧ (strip s).length ≤ s.length :=
  ⟨(oct_room a p _ (strip s).length (strip s) (Nat.le_refl _)).1, List.length_filter_le _ _⟩
theorem roomN5_small (p : Int) (n : Nat) : roomN5 p n ≤ n := by unfold roomN5; split <;> omega

set_option maxHeartbeats 1000000 in
theorem decodeString32 (ge : Nat) (a : List UInt8) (p : Int) (s : ByteArray) (w : World)
    (he : Blk w ge 69 (encTo a 32 [.int .i32 p])) (hv : validP 5 a p) (hs : s.size ≤ 1125899906842624) :
    Calls Try.prog 21 #[.pointer (some ⟨ge, 0, none⟩), .string s] w (StrPost 56 (dec32 a p s.data.toList) w) := by
  have HE := Lib.hid he
  have HV := Lib.hid hv
  have hp1 := hv.2.1
  have hp2 := hv.2.2.1
  have hL : s.data.toList.length = s.size := by simp
  have HLs := Lib.hid hL
  obtain ⟨hd1, hd2⟩ := dec32_le a p s.data.toList
  have hd3 := roomN5_small p (strip s.data.toList).length
  rw [hL] at hd2
  clear he hv hL
  obtain ⟨c, w1, hc1, hc2, hcv, HB1, _, HZ1, HC1⟩ := conv_bys (P := Try.prog) w 9 22 5 s Try.underlying9 Try.underlying22 Try.underlying5 hs
  obtain ⟨cs, hbl, hcl, htk⟩ := HC1.out
  have HBL := Lib.hid hbl
  have HRS : Hid (Rs32 w1 w.heap.size 0 w.heap.size 0 s.data.toList) := ⟨Or.inr (Nat.le_refl _), fun j x hj => by
    rw [Nat.zero_add, hbl.cell]
    have hlt : j < s.size := by rw [← HLs.out]; exact (List.getElem?_eq_some_iff.1 hj).1
    have h5 := byteCells_at _ j x hj
    rw [← htk, List.getElem?_take, if_pos hlt] at h5
    exact h5⟩
  have HCL := Lib.hid hcl
  have HCM := Lib.hid hc2
  unfold maxLen at hc2
  clear hbl hcl htk HC1
  go_enter Try.func21, Try.ntmps21
  go_wp2_with fail
  have hst := strip32 w.heap.size 0 s.size c c w.heap.size 0 5 (some ⟨w.heap.size, 0, none⟩) s.data.toList cs w1 HBL.out (by rw [HCL.out, Nat.zero_add]; exact hc1) (by rw [HLs.out]; exact Nat.le_refl _) hc1 HCM.out (fun _ => rfl) HRS.out (by rw [HLs.out]; exact hc1) HCM.out
  rw [HLs.out] at hst
  refine hst.mono ?_
  rintro e w2 ⟨rfl, hw2⟩
  clear hst
  obtain ⟨cs2, b2, l2, q2, _, g2⟩ := hw2
  have HB2 := Lib.hid b2
  have HL2 : Hid (cs2.length = c) := by show _ = _; rw [l2, HCL.out]
  have HRS2 : Hid (Rs32 w2 w.heap.size 0 w.heap.size 0 (strip s.data.toList)) := ⟨Or.inr (Nat.le_refl _), fun j x hj => by
    rw [Nat.zero_add, b2.cell]
    have := q2 j x hj
    rw [Nat.zero_add] at this
    exact this⟩
  have hgE : Hid (ge < w.heap.size) := HE.out.lt
  have HE2 : Hid (Blk w2 ge 69 (encTo a 32 [.int .i32 p])) := (HE.out.below HB1.out HE.out.lt).grown g2 (by have := hgE.out; simp; omega)
  have HB02 : Hid (Below w.heap.size w w2) := HB1.out.trans (grown_below g2 (Nat.le_refl _) HB1.out.size)
  clear b2 l2 q2 g2 hcv HBL HRS
  have hdd := decode32_any ge w.heap.size 0 0 s.size c c w.heap.size 0 5 a p (some ⟨w.heap.size, 0, none⟩) (strip s.data.toList) cs2 w2 HE2.out HV.out.1 hp1 hp2 (fun h => by have := hgE.out; omega) HB2.out (fun _ => rfl) (by rw [HL2.out, Nat.zero_add]; exact hc1) hc1 HCM.out (by unfold dec32 at hd1; omega) (fun _ => rfl) HRS2.out (by omega) HCM.out
  obtain ⟨l, hl⟩ : ∃ l, l = (strip s.data.toList).length := ⟨_, rfl⟩
  rw [← hl] at hdd hd2
  have hdec : dec32 a p s.data.toList = octDec a p l (strip s.data.toList) := by rw [hl]; rfl
  rw [hdec] at hd1
  rw [← hl] at hd1 hd3 ⊢
  have HDEC := Lib.hid hdec
  clear hl hdec
  go_wp2_with fail
  refine hdd.mono ?_
  rintro e w3 ⟨fin, rfl, hwr⟩
  clear hdd
  obtain ⟨cs3, b3, l3, q3, _, g3⟩ := hwr
  have HBY : Hid (Bys w3 (.slice (some ⟨w.heap.size, 0, none⟩) (octDec a p l (strip s.data.toList)).1.length c) (octDec a p l (strip s.data.toList)).1) := Bys.of_blm b3 0 c _ (by omega) HCM.out q3
  have HB3 : Hid (Below w.heap.size w w3) := HB02.out.trans (grown_below g3 (Nat.le_refl _) HB02.out.size)
  clear b3 l3 q3 g3
  generalize octDec a p l (strip s.data.toList) = R at *
  obtain ⟨bs, err⟩ := R
  simp only at hd1 HBY ⊢
  go_wp2
  go_ret2
  rw [HDEC.out]
  exact ⟨_, _, rfl, HBY.out, HB3.out⟩

set_option maxHeartbeats 400000 in
theorem decode32W (s : ByteArray) (p : Int) (t : ByteArray) (w : World) (hv : validP 5 s.data.toList p) (ht : t.size ≤ 1125899906842624) :
    Calls Try.prog 12 #[.string s, .int .i64 p, .string t] w (DecPost (dec32 s.data.toList p t.data.toList) w) := by
  have HV := Lib.hid hv
  clear hv
  go_enter Try.func12, Try.ntmps12
  go_wp2_with fail
  refine (encoding32 s p _ HV.out).mono ?_
  rintro e w1 ⟨g, rfl, hg, hb, hw⟩
  have HB := Lib.hid hb
  have HW := Lib.hid hw
  clear hb hw
  go_wp2_with fail
  refine (decodeString32 g _ p t _ HB.out HV.out ht).mono ?_
  rintro e w2 ⟨g2, c2, rfl, hy, hb2⟩
  have HY := Lib.hid hy
  have HB2 := Lib.hid (below_trans' HW.out hb2)
  clear hy hb2
  go_wp2_with fail
  refine (end32_any _ _).mono ?_
  rintro e w3 ⟨rfl, rfl⟩
  go_wp2
  go_ret3
  exact ⟨_, _, rfl, HY.out, HB2.out⟩

theorem decode32I (s : ByteArray) (p : Int) (t : ByteArray) (w : World) (hv : validP 5 s.data.toList p) (ht : t.size ≤ 281474976710656) :
    Calls Try.prog 12 #[.string s, .int .i64 p, .string t] w (DecPost (dec32 s.data.toList p t.data.toList) w) :=
  decode32W s p t w hv (Nat.le_trans ht (by decide))

end Go.Proofs.Ytkiipbpcaakkoaa
