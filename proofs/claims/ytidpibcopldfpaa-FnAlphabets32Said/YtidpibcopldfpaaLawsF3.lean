/-
  The walks of the laws on another padding and another alphabet: each returns true. Conditions: slices hold at most 2 ^ 47 - 4096 bytes, strings fit an int.
-/
import Derived.Test.YtidpibcopldfpaaLawsF2
namespace Go.Proofs.Ytidpibcopldfpaa
open Go.RowKit

theorem valid5_raw {a : List UInt8} {p : Int} (hv : validP 5 a p) : validP 5 a (-1) :=
  ⟨hv.1, by omega, by omega, by omega, by omega, fun i h => by
    obtain ⟨h1, h2, h3, _, h5⟩ := hv.2.2.2.2.2 i h
    exact ⟨h1, h2, h3, by omega, h5⟩⟩

theorem take_text5 (a : List UInt8) (p : Int) (l : List UInt8) : (textOf 5 a p l).take (charsN 5 l.length) = textOf 5 a (-1) l := by
  have e : padN 5 (-1) l.length = 0 := (padN5_le (-1) l.length).2 (by omega)
  unfold textOf
  rw [e, List.take_append_of_le_length (by rw [lettersOf_length5]; exact Nat.le_refl _), List.take_of_length_le (by rw [lettersOf_length5]; exact Nat.le_refl _)]
  simp

set_option maxHeartbeats 1000000 in
theorem law_FnPadding32 (s : ByteArray) (p o : Int) (v : Value) (l : List UInt8) (w : World) (hs : s.size ≤ 140737488351232) (_ : (Lit.int .i64 p).wf = true) (_ : (Lit.int .i64 o).wf = true) (hb : Bys w v l) (hl : l.length ≤ 140737488351232) :
    Calls Try.prog 9 #[.string s, .int .i64 p, .int .i64 o, v] w fun e w' => e = .returned (.bool true) ∧ Below w.heap.size w w' := by
  have HS : Hid (s.size ≤ maxLen) := by show _ ≤ _; unfold maxLen; omega
  have HY := Lib.hid hb
  obtain ⟨A, c, rfl, hc, hcm, _⟩ := hb
  unfold maxLen at hcm
  clear hs
  by_cases hv : validB 5 s.data.toList p = true ∧ validB 5 s.data.toList o = true ∧ 0 ≤ p ∧ 0 ≤ o
  · obtain ⟨hv, hv', hp0, ho0⟩ := hv
    have HV := Lib.hid hv
    have HV' := Lib.hid hv'
    have HVP := Lib.hid (validB_true hv)
    have HVO := Lib.hid (validB_true hv')
    have hp2 := (validB_true hv).2.2.1
    have ho2 := (validB_true hv').2.2.1
    clear hv hv'
    obtain ⟨t, HT, ht⟩ := strIs_mk (textOf 5 s.data.toList p l)
    obtain ⟨r, HR, hr⟩ := strIs_mk (textOf 5 s.data.toList (-1) l)
    obtain ⟨u, HU, hu⟩ := strIs_mk (textOf 5 s.data.toList o l)
    have HTN := Lib.hid ht
    have HRN := Lib.hid hr
    have HUN := Lib.hid hu
    have hN1 := charsN5_le l.length
    have hrs : r.size = charsN 5 l.length := by rw [HR.size, textOf_length5, (lenN5_facts (-1) l.length).2.2.1 (by omega)]
    have hts : t.size = lenN 5 p l.length := by rw [HT.size, textOf_length5]
    have hus : u.size = lenN 5 p l.length := by
      rw [HU.size, textOf_length5]
      unfold lenN padN
      rw [if_neg (by omega), if_neg (by omega)]
    have hfc := lenN5_facts p l.length
    have HCN : Hid (chars 5 (l.length : Int) = (r.size : Int)) := by show _ = _; rw [chars5_N, hrs]
    have HLN : Hid (lenOf 5 p (l.length : Int) = (t.size : Int)) := by show _ = _; rw [lenOf5_N, hts]
    have HPD : Hid (∀ k, r.size ≤ k → (hk : k < t.size) → ((t[k].toNat : Nat) : Int) = p) := fun k h1 h2 => by
      have h3 := text5_pad s.data.toList p l k (by omega) (by omega)
      have h4 := HT.at k h2
      rw [h3.1] at h4
      simp only [Option.some.injEq] at h4
      rw [← h4]
      exact padB_toNat p h3.2 hp2
    have HPU : Hid (∀ k, r.size ≤ k → (hk : k < u.size) → ((u[k].toNat : Nat) : Int) = o) := fun k h1 h2 => by
      have h3 := text5_pad s.data.toList o l k (by omega) (by rw [← textOf_length5 s.data.toList, ← HU.size]; exact h2)
      have h4 := HU.at k h2
      rw [h3.1] at h4
      simp only [Option.some.injEq] at h4
      rw [← h4]
      exact padB_toNat o h3.2 ho2
    have hut : u.size ≤ t.size := by omega
    have htu : t.size ≤ u.size := by omega
    have hrt : r.size ≤ t.size := by omega
    have hbig : t.size ≤ 2 * l.length + 8 := by omega
    have hx1 : (t.extract 0 r.size).toList = r.toList := by rw [toList_extract0, Lib.toList_data, show t.data.toList = _ from HT, show r.data.toList = _ from HR, hrs, take_text5]
    have hx2 : (u.extract 0 r.size).toList = r.toList := by rw [toList_extract0, Lib.toList_data, show u.data.toList = _ from HU, show r.data.toList = _ from HR, hrs, take_text5]
    have hd1 : decide (p < 0) = false := by simp; omega
    have hd2 : decide (o < 0) = false := by simp; omega
    clear hrs hts hus hfc HT HR HU ht hr hu hN1
    go_enter Try.func9, Try.ntmps9
    go_wp2_with fail
    refine (valid5_any s p _ HS.out).mono ?_
    rintro e w1 ⟨rfl, rfl⟩
    rw [HV.out]
    go_wp2_with fail
    refine (valid5_any s o _ HS.out).mono ?_
    rintro e w1 ⟨rfl, rfl⟩
    rw [HV'.out]
    go_wp2_with fail
    refine (encode32I s p _ l _ HVP.out HY.out hl).mono ?_
    rintro e w2 ⟨rfl, hb2⟩
    rw [HTN.out]
    have HB2 := Lib.hid hb2
    clear hb2
    go_wp2_with fail
    refine (encode32I s (-1) _ l _ (valid5_raw HVP.out) (HY.out.below HB2.out) hl).mono ?_
    rintro e w3 ⟨rfl, hb3⟩
    rw [HRN.out]
    have HB3 := Lib.hid (below_trans' HB2.out hb3)
    clear hb3
    go_wp2_with fail
    refine (encode32I s o _ l _ HVO.out (HY.out.below HB3.out) hl).mono ?_
    rintro e w4 ⟨rfl, hb4⟩
    rw [HUN.out]
    have HB4 := Lib.hid (below_trans' HB3.out hb4)
    clear hb4
    go_wp2_with fail
    refine (chars5_any (l.length : Int) _ (by omega) (by omega)).mono ?_
    rintro e w5 ⟨rfl, q1, rfl⟩
    rw [HCN.out]
    go_wp2_with fail
    refine (length5_any p (l.length : Int) _ (by omega) (by omega)).mono ?_
    rintro e w6 ⟨rfl, q2, rfl⟩
    rw [HLN.out]
    go_wp2_with fail
    go_loop [13] (fun i => ∃ k : Nat, r.size ≤ k ∧ k ≤ t.size ∧ i = .int .i64 k) (fun i => t.size - (intOf i).toNat)
    case atStart => exact ⟨r.size, Nat.le_refl _, hrt, rfl⟩
    case round =>
      obtain ⟨k, hk1, hk2, rfl⟩ := hrel
      by_cases hlt : k < t.size
      · have hltu : k < u.size := by omega
        have HE := Lib.hid (HPD.out k hk1 hlt)
        have HE2 := Lib.hid (HPU.out k hk1 hltu)
        have t1 : (wrap64 ((t[k].toNat : Nat) : Int) != p) = false := by rw [wrap64_byte, HE.out]; simp
        have t2 : (wrap64 ((u[k].toNat : Nat) : Int) != o) = false := by rw [wrap64_byte, HE2.out]; simp
        go_wp2
        go_round
        case rel => exact ⟨k + 1, by omega, by omega, by go_num⟩
        case measure => simp [intOf]; omega
      · go_wp2
        go_ret
        exact ⟨rfl, below_drewN HB4.out _⟩
  · have hv' : validB 5 s.data.toList p = false ∨ (validB 5 s.data.toList p = true ∧ (validB 5 s.data.toList o = false ∨ (validB 5 s.data.toList o = true ∧ (p < 0 ∨ (0 ≤ p ∧ o < 0))))) := by
      cases h1 : validB 5 s.data.toList p
      · exact Or.inl rfl
      · cases h2 : validB 5 s.data.toList o
        · exact Or.inr ⟨rfl, Or.inl rfl⟩
        · refine Or.inr ⟨rfl, Or.inr ⟨rfl, ?_⟩⟩
          rw [h1, h2] at hv
          simp only [true_and] at hv
          omega
    clear hv
    rcases hv' with h1 | ⟨h1, h2 | ⟨h2, h3 | ⟨h3, h4⟩⟩⟩
    all_goals
      have HV := Lib.hid h1
      clear h1
    · go_enter Try.func9, Try.ntmps9
      go_wp2_with fail
      refine (valid5_any s p _ HS.out).mono ?_
      rintro e w1 ⟨rfl, rfl⟩
      rw [HV.out]
      go_wp2
      go_ret
      exact ⟨rfl, Below.refl _ _⟩
    all_goals
      have HV2 := Lib.hid h2
      clear h2
      go_enter Try.func9, Try.ntmps9
      go_wp2_with fail
      refine (valid5_any s p _ HS.out).mono ?_
      rintro e w1 ⟨rfl, rfl⟩
      rw [HV.out]
      go_wp2_with fail
      refine (valid5_any s o _ HS.out).mono ?_
      rintro e w1 ⟨rfl, rfl⟩
      rw [HV2.out]
      go_wp2
      go_ret
      exact ⟨rfl, Below.refl _ _⟩

end Go.Proofs.Ytidpibcopldfpaa
