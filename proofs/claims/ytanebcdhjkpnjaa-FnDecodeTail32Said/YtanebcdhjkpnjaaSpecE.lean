/-
  The contract of the reference's function Decoded: the bytes of a text, whether it is well formed, whether its unused bits are zero. Conditions: the alphabet and the padding are valid; strings of at most 2 ^ 45 bytes.
-/
import Derived.Test.YtanebcdhjkpnjaaSpecD
namespace Go.Proofs.Ytanebcdhjkpnjaa
open Go.RowKit

theorem extract0_data (t : ByteArray) (n : Nat) : (t.extract 0 n).data.toList = t.data.toList.take n := by
  have := toList_extract0 t n
  rw [Lib.toList_data] at this
  exact this
theorem isL_take (a t : List UInt8) (c : UInt8) (h : c ∈ t.take (lettersIn a t)) : isL a c = true := by
  obtain ⟨j, hj, rfl⟩ := List.getElem_of_mem h
  rw [List.length_take] at hj
  rw [List.getElem_take]
  exact isL_of_lt a t j _ (by omega) (List.getElem?_eq_getElem _)

/-- What Decoded returns. -/
def DecodedPost (bits : Nat) (un : List Nat → List UInt8) (rest : List Nat → Nat) (a : List UInt8) (p : Int) (s : List UInt8) (w : World) (e : Ending) (w' : World) : Prop :=
  ∃ v', e = .returned (.tuple #[v', .bool (fineB bits a p (strip s)), .bool (fineB bits a p (strip s) && (rest (numsOf a (strip s)) == 0))]) ∧ Bys w' v' (if fineB bits a p (strip s) = true then un (numsOf a (strip s)) else []) ∧ Below w.heap.size w w'

theorem decoded_no {bits : Nat} {un : List Nat → List UInt8} {rest : List Nat → Nat} {a : List UInt8} {p : Int} {s : List UInt8} {w w' : World} {h : Nat} (hf : fineB bits a p (strip s) = false) (hb : Below w.heap.size w w') :
    DecodedPost bits un rest a p s w (.returned (.tuple #[.slice (some ⟨h, 0, none⟩) 0 0, .bool false, .bool false])) w' := by
  refine ⟨_, by rw [hf]; rfl, ?_, hb⟩
  rw [hf, if_neg (by simp)]
  exact Bys.none_ (Nat.zero_le _)

set_option maxHeartbeats 2000000 in
theorem decoded6_any (a s : ByteArray) (p : Int) (w : World) (hv : validP 6 a.data.toList p) (hs : s.size ≤ 140737488351232) :
    Calls Try.prog 15 #[.int .i64 6, .string a, .int .i64 p, .string s] w (DecodedPost 6 unsix unS a.data.toList p s.data.toList w) := by
  have HA : Hid (a.size ≤ maxLen) := by show _ ≤ _; have := hv.1; simp at this; rw [this]; unfold maxLen; omega
  have HV := Lib.hid hv
  have hp1 := hv.2.1
  have hp2 := hv.2.2.1
  clear hv
  obtain ⟨t, HT, ht⟩ := strIs_mk (strip s.data.toList)
  have HTN := Lib.hid ht
  have hsz : t.size ≤ s.size := by rw [HT.size]; have := strip_le s.data.toList; simpa using this
  have HTS : Hid (t.data.toList.length = t.size) := by show _ = _; simp
  have HTD : Hid (strip s.data.toList = t.data.toList) := HT.symm
  have HTM : Hid (t.size ≤ maxLen) := by show _ ≤ _; unfold maxLen; omega
  clear ht HT
  have hLle : lettersIn a.data.toList t.data.toList ≤ t.size := by have := lettersIn_le a.data.toList t.data.toList; rw [HTS.out] at this; exact this
  have HEX : Hid ((t.extract 0 (lettersIn a.data.toList t.data.toList)).data.toList.map (numL a.data.toList) = numsOf a.data.toList t.data.toList) := by
    show _ = _
    rw [extract0_data]
    rfl
  have HEL : Hid (∀ c ∈ (t.extract 0 (lettersIn a.data.toList t.data.toList)).data.toList, isL a.data.toList c = true) := by
    intro c hc
    rw [extract0_data] at hc
    exact isL_take _ _ c hc
  obtain ⟨L, hL⟩ : ∃ L, L = lettersIn a.data.toList t.data.toList := ⟨_, rfl⟩
  rw [← hL] at hLle HEX HEL
  have HL := Lib.hid hL
  clear hL
  have HES : Hid ((t.extract 0 L).size ≤ 140737488351232) := by
    show _ ≤ _
    have h1 : (t.extract 0 L).size = (t.extract 0 L).data.toList.length := by simp
    rw [h1, extract0_data, List.length_take]
    omega
  have HWF : Hid ((charsN 6 (L * 6 / 8) == L) = false → fineB 6 a.data.toList p (strip s.data.toList) = false) := fun h => by
    rw [HTD.out]
    refine fineB_false_whole ?_
    rw [← HL.out]
    simpa using h
  have HLF : Hid ((t.size : Int) ≠ lenOf 6 p ((L : Int) * 6 / 8) → fineB 6 a.data.toList p (strip s.data.toList) = false) := fun h => by
    rw [HTD.out]
    refine fineB_false_len ?_
    rw [← HL.out, HTS.out]
    have := lenOf6_N p (L * 6 / 8)
    rw [Int.natCast_ediv, Int.natCast_mul] at this
    intro hh
    exact h (by rw [show ((L : Int) * 6 / 8) = ((L : Int) * ((6 : Nat) : Int) / ((8 : Nat) : Int)) from rfl, this, ← hh])
  go_enter Try.func15, Try.ntmps15
  go_wp2_with fail
  refine (stripped_any s _ hs).mono ?_
  rintro e w1 ⟨rfl, hb1⟩
  rw [HTN.out]
  have HB1 := Lib.hid hb1
  clear hb1
  go_wp2_with fail
  refine (letters_any a t _ HA.out HTM.out).mono ?_
  rintro e w2 ⟨rfl, rfl⟩
  rw [← HL.out]
  go_wp2_with fail
  go_loop [13] (fun i => ∃ k : Nat, L ≤ k ∧ k ≤ t.size ∧ i = .int .i64 k ∧ Hid (∀ j, L ≤ j → j < k → ∀ c, t.data.toList[j]? = some c → 0 ≤ p ∧ (c.toNat : Int) = p)) (fun i => t.size - (intOf i).toNat)
  case atStart => exact ⟨L, Nat.le_refl _, hLle, rfl, fun j h1 h2 => by omega⟩
  case round =>
    obtain ⟨k, hk1, hk2, rfl, hall⟩ := hrel
    by_cases hlt : k < t.size
    · have HK : Hid (t.data.toList[k]? = some t[k]) := by
        show _ = _
        rw [List.getElem?_eq_getElem (by rw [HTS.out]; exact hlt)]
        rfl
      have HBAD : Hid (¬ (0 ≤ p ∧ ((t[k].toNat : Nat) : Int) = p) → fineB 6 a.data.toList p (strip s.data.toList) = false) := fun h => by
        rw [HTD.out]
        refine fineB_false_rest t[k] ?_ h
        rw [← HL.out]
        refine List.mem_of_getElem? (i := k - L) ?_
        rw [List.getElem?_drop, show L + (k - L) = k by omega]
        exact HK.out
      by_cases hp : p < 0
      · have HF := Lib.hid (HBAD.out (fun h => by omega))
        go_wp2
        go_ret3
        exact decoded_no HF.out (HB1.out.alloc HB1.out.size _)
      · by_cases hc : ((t[k].toNat : Nat) : Int) = p
        · have HC := Lib.hid hc
          have hne : (wrap64 ((t[k].toNat : Nat) : Int) != p) = false := by rw [wrap64_byte, hc]; simp
          have HNE := Lib.hid hne
          have hne2 : (((t[k].toNat : Nat) : Int) != p) = false := by rw [hc]; simp
          clear hc
          go_wp2
          all_goals first
            | (go_round
               case rel =>
                 refine ⟨k + 1, by omega, by omega, by go_num, fun j h1 h2 c hjc => ?_⟩
                 by_cases e : j = k
                 · subst e
                   rw [HK.out] at hjc
                   simp only [Option.some.injEq] at hjc
                   subst hjc
                   exact ⟨by omega, HC.out⟩
                 · exact hall.out j h1 (by omega) c hjc
               case measure => simp [intOf]; omega)
            | (exfalso; simp_all; done)
        · have HF := Lib.hid (HBAD.out (fun h => hc h.2))
          have hne : (wrap64 ((t[k].toNat : Nat) : Int) != p) = true := by rw [wrap64_byte]; simpa using hc
          have hne2 : (((t[k].toNat : Nat) : Int) != p) = true := by simpa using hc
          have HC := Lib.hid hc
          clear hc
          go_wp2
          all_goals first
            | (go_ret3
               exact decoded_no HF.out (HB1.out.alloc HB1.out.size _))
            | (exfalso; simp_all; done)
    · obtain rfl : k = t.size := by omega
      go_wp2_with fail
      refine (whole6_any L _ (by omega)).mono ?_
      rintro e w3 ⟨rfl, q3, rfl⟩
      cases hwh : (charsN 6 (L * 6 / 8) == L)
      · have HF := Lib.hid (HWF.out hwh)
        clear hwh
        go_wp2
        go_ret3
        exact decoded_no HF.out (below_drewN (HB1.out.alloc HB1.out.size _) q3)
      · have HWH := Lib.hid hwh
        clear hwh
        go_wp2_with fail
        refine (length6_any p _ _ (by omega) (by omega)).mono ?_
        rintro e w4 ⟨rfl, q4, rfl⟩
        by_cases hlen : (t.size : Int) = lenOf 6 p ((L : Int) * 6 / 8)
        · have hlb : ((t.size : Int) != lenOf 6 p ((L : Int) * 6 / 8)) = false := by simpa using hlen
          have HFI : Hid (fineB 6 a.data.toList p (strip s.data.toList) = true) := by
            show _ = _
            rw [HTD.out]
            refine fineB_true ?_ ?_ ?_
            · intro c hc
              rw [← HL.out] at hc
              obtain ⟨j, hj, rfl⟩ := List.getElem_of_mem hc
              rw [List.length_drop, HTS.out] at hj
              refine hall.out (L + j) (by omega) (by omega) _ ?_
              rw [List.getElem_drop]
              exact List.getElem?_eq_getElem _
            · rw [← HL.out]; exact eq_of_beq HWH.out
            · rw [← HL.out, HTS.out]
              have := lenOf6_N p (L * 6 / 8)
              rw [Int.natCast_ediv, Int.natCast_mul] at this
              have h2 : lenOf 6 p ((L : Int) * 6 / 8) = ((lenN 6 p (L * 6 / 8) : Nat) : Int) := this
              rw [h2] at hlen
              exact_mod_cast hlen
          clear hlen
          go_wp2_with fail
          refine (values6_any a (t.extract 0 L) p _ HV.out (Nat.le_trans HES.out (by omega)) HEL.out).mono ?_
          rintro e w5 ⟨v5, rfl, hy5, hb5⟩
          rw [HEX.out] at hy5 ⊢
          have HY5 := Lib.hid hy5
          have HB5 : Hid (Below w.heap.size w w5) := by
            first
              | exact (below_drewN HB1.out (q3 + q4)).trans (hb5.mono HB1.out.size)
              | exact (below_drewN (below_drewN HB1.out q3) q4).trans (hb5.mono HB1.out.size)
          clear hy5 hb5
          go_wp2
          go_ret3
          refine ⟨v5, ?_, ?_, HB5.out⟩
          · have hz : (((unS (numsOf a.data.toList t.data.toList) : Nat) : Int) == 0) = (unS (numsOf a.data.toList t.data.toList) == 0) := by rw [Bool.eq_iff_iff]; simp
            rw [HFI.out, HTD.out, ← hz]
            simp
          · rw [HFI.out, if_pos rfl, HTD.out]
            exact HY5.out
        · have HF := Lib.hid (HLF.out hlen)
          have hlb : ((t.size : Int) != lenOf 6 p ((L : Int) * 6 / 8)) = true := by simpa using hlen
          clear hlen
          go_wp2
          go_ret3
          exact decoded_no HF.out ((below_drewN HB1.out (q3 + q4)).alloc HB1.out.size _)

set_option maxHeartbeats 2000000 in
theorem decoded5_any (a s : ByteArray) (p : Int) (w : World) (hv : validP 5 a.data.toList p) (hs : s.size ≤ 140737488351232) :
    Calls Try.prog 15 #[.int .i64 5, .string a, .int .i64 p, .string s] w (DecodedPost 5 unfive unF a.data.toList p s.data.toList w) := by
  have HA : Hid (a.size ≤ maxLen) := by show _ ≤ _; have := hv.1; simp at this; rw [this]; unfold maxLen; omega
  have HV := Lib.hid hv
  have hp1 := hv.2.1
  have hp2 := hv.2.2.1
  clear hv
  obtain ⟨t, HT, ht⟩ := strIs_mk (strip s.data.toList)
  have HTN := Lib.hid ht
  have hsz : t.size ≤ s.size := by rw [HT.size]; have := strip_le s.data.toList; simpa using this
  have HTS : Hid (t.data.toList.length = t.size) := by show _ = _; simp
  have HTD : Hid (strip s.data.toList = t.data.toList) := HT.symm
  have HTM : Hid (t.size ≤ maxLen) := by show _ ≤ _; unfold maxLen; omega
  clear ht HT
  have hLle : lettersIn a.data.toList t.data.toList ≤ t.size := by have := lettersIn_le a.data.toList t.data.toList; rw [HTS.out] at this; exact this
  have HEX : Hid ((t.extract 0 (lettersIn a.data.toList t.data.toList)).data.toList.map (numL a.data.toList) = numsOf a.data.toList t.data.toList) := by
    show _ = _
    rw [extract0_data]
    rfl
  have HEL : Hid (∀ c ∈ (t.extract 0 (lettersIn a.data.toList t.data.toList)).data.toList, isL a.data.toList c = true) := by
    intro c hc
    rw [extract0_data] at hc
    exact isL_take _ _ c hc
  obtain ⟨L, hL⟩ : ∃ L, L = lettersIn a.data.toList t.data.toList := ⟨_, rfl⟩
  rw [← hL] at hLle HEX HEL
  have HL := Lib.hid hL
  clear hL
  have HES : Hid ((t.extract 0 L).size ≤ 140737488351232) := by
    show _ ≤ _
    have h1 : (t.extract 0 L).size = (t.extract 0 L).data.toList.length := by simp
    rw [h1, extract0_data, List.length_take]
    omega
  have HWF : Hid ((charsN 5 (L * 5 / 8) == L) = false → fineB 5 a.data.toList p (strip s.data.toList) = false) := fun h => by
    rw [HTD.out]
    refine fineB_false_whole ?_
    rw [← HL.out]
    simpa using h
  have HLF : Hid ((t.size : Int) ≠ lenOf 5 p ((L : Int) * 5 / 8) → fineB 5 a.data.toList p (strip s.data.toList) = false) := fun h => by
    rw [HTD.out]
    refine fineB_false_len ?_
    rw [← HL.out, HTS.out]
    have := lenOf5_N p (L * 5 / 8)
    rw [Int.natCast_ediv, Int.natCast_mul] at this
    intro hh
    exact h (by rw [show ((L : Int) * 5 / 8) = ((L : Int) * ((5 : Nat) : Int) / ((8 : Nat) : Int)) from rfl, this, ← hh])
  go_enter Try.func15, Try.ntmps15
  go_wp2_with fail
  refine (stripped_any s _ hs).mono ?_
  rintro e w1 ⟨rfl, hb1⟩
  rw [HTN.out]
  have HB1 := Lib.hid hb1
  clear hb1
  go_wp2_with fail
  refine (letters_any a t _ HA.out HTM.out).mono ?_
  rintro e w2 ⟨rfl, rfl⟩
  rw [← HL.out]
  go_wp2_with fail
  go_loop [13] (fun i => ∃ k : Nat, L ≤ k ∧ k ≤ t.size ∧ i = .int .i64 k ∧ Hid (∀ j, L ≤ j → j < k → ∀ c, t.data.toList[j]? = some c → 0 ≤ p ∧ (c.toNat : Int) = p)) (fun i => t.size - (intOf i).toNat)
  case atStart => exact ⟨L, Nat.le_refl _, hLle, rfl, fun j h1 h2 => by omega⟩
  case round =>
    obtain ⟨k, hk1, hk2, rfl, hall⟩ := hrel
    by_cases hlt : k < t.size
    · have HK : Hid (t.data.toList[k]? = some t[k]) := by
        show _ = _
        rw [List.getElem?_eq_getElem (by rw [HTS.out]; exact hlt)]
        rfl
      have HBAD : Hid (¬ (0 ≤ p ∧ ((t[k].toNat : Nat) : Int) = p) → fineB 5 a.data.toList p (strip s.data.toList) = false) := fun h => by
        rw [HTD.out]
        refine fineB_false_rest t[k] ?_ h
        rw [← HL.out]
        refine List.mem_of_getElem? (i := k - L) ?_
        rw [List.getElem?_drop, show L + (k - L) = k by omega]
        exact HK.out
      by_cases hp : p < 0
      · have HF := Lib.hid (HBAD.out (fun h => by omega))
        go_wp2
        go_ret3
        exact decoded_no HF.out (HB1.out.alloc HB1.out.size _)
      · by_cases hc : ((t[k].toNat : Nat) : Int) = p
        · have HC := Lib.hid hc
          have hne : (wrap64 ((t[k].toNat : Nat) : Int) != p) = false := by rw [wrap64_byte, hc]; simp
          have HNE := Lib.hid hne
          have hne2 : (((t[k].toNat : Nat) : Int) != p) = false := by rw [hc]; simp
          clear hc
          go_wp2
          all_goals first
            | (go_round
               case rel =>
                 refine ⟨k + 1, by omega, by omega, by go_num, fun j h1 h2 c hjc => ?_⟩
                 by_cases e : j = k
                 · subst e
                   rw [HK.out] at hjc
                   simp only [Option.some.injEq] at hjc
                   subst hjc
                   exact ⟨by omega, HC.out⟩
                 · exact hall.out j h1 (by omega) c hjc
               case measure => simp [intOf]; omega)
            | (exfalso; simp_all; done)
        · have HF := Lib.hid (HBAD.out (fun h => hc h.2))
          have hne : (wrap64 ((t[k].toNat : Nat) : Int) != p) = true := by rw [wrap64_byte]; simpa using hc
          have hne2 : (((t[k].toNat : Nat) : Int) != p) = true := by simpa using hc
          have HC := Lib.hid hc
          clear hc
          go_wp2
          all_goals first
            | (go_ret3
               exact decoded_no HF.out (HB1.out.alloc HB1.out.size _))
            | (exfalso; simp_all; done)
    · obtain rfl : k = t.size := by omega
      go_wp2_with fail
      refine (whole5_any L _ (by omega)).mono ?_
      rintro e w3 ⟨rfl, q3, rfl⟩
      cases hwh : (charsN 5 (L * 5 / 8) == L)
      · have HF := Lib.hid (HWF.out hwh)
        clear hwh
        go_wp2
        go_ret3
        exact decoded_no HF.out (below_drewN (HB1.out.alloc HB1.out.size _) q3)
      · have HWH := Lib.hid hwh
        clear hwh
        go_wp2_with fail
        refine (length5_any p _ _ (by omega) (by omega)).mono ?_
        rintro e w4 ⟨rfl, q4, rfl⟩
        by_cases hlen : (t.size : Int) = lenOf 5 p ((L : Int) * 5 / 8)
        · have hlb : ((t.size : Int) != lenOf 5 p ((L : Int) * 5 / 8)) = false := by simpa using hlen
          have HFI : Hid (fineB 5 a.data.toList p (strip s.data.toList) = true) := by
            show _ = _
            rw [HTD.out]
            refine fineB_true ?_ ?_ ?_
            · intro c hc
              rw [← HL.out] at hc
              obtain ⟨j, hj, rfl⟩ := List.getElem_of_mem hc
              rw [List.length_drop, HTS.out] at hj
              refine hall.out (L + j) (by omega) (by omega) _ ?_
              rw [List.getElem_drop]
              exact List.getElem?_eq_getElem _
            · rw [← HL.out]; exact eq_of_beq HWH.out
            · rw [← HL.out, HTS.out]
              have := lenOf5_N p (L * 5 / 8)
              rw [Int.natCast_ediv, Int.natCast_mul] at this
              have h2 : lenOf 5 p ((L : Int) * 5 / 8) = ((lenN 5 p (L * 5 / 8) : Nat) : Int) := this
              rw [h2] at hlen
              exact_mod_cast hlen
          clear hlen
          go_wp2_with fail
          refine (values5_any a (t.extract 0 L) p _ HV.out (Nat.le_trans HES.out (by omega)) HEL.out).mono ?_
          rintro e w5 ⟨v5, rfl, hy5, hb5⟩
          rw [HEX.out] at hy5 ⊢
          have HY5 := Lib.hid hy5
          have HB5 : Hid (Below w.heap.size w w5) := by
            first
              | exact (below_drewN HB1.out (q3 + q4)).trans (hb5.mono HB1.out.size)
              | exact (below_drewN (below_drewN HB1.out q3) q4).trans (hb5.mono HB1.out.size)
          clear hy5 hb5
          go_wp2
          go_ret3
          refine ⟨v5, ?_, ?_, HB5.out⟩
          · have hz : (((unF (numsOf a.data.toList t.data.toList) : Nat) : Int) == 0) = (unF (numsOf a.data.toList t.data.toList) == 0) := by rw [Bool.eq_iff_iff]; simp
            rw [HFI.out, HTD.out, ← hz]
            simp
          · rw [HFI.out, if_pos rfl, HTD.out]
            exact HY5.out
        · have HF := Lib.hid (HLF.out hlen)
          have hlb : ((t.size : Int) != lenOf 5 p ((L : Int) * 5 / 8)) = true := by simpa using hlen
          clear hlen
          go_wp2
          go_ret3
          exact decoded_no HF.out ((below_drewN HB1.out (q3 + q4)).alloc HB1.out.size _)

end Go.Proofs.Ytanebcdhjkpnjaa
