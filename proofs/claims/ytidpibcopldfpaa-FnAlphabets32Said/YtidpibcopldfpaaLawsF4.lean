/-
  The walk of the law on another alphabet: it returns true. Conditions: slices hold at most 2 ^ 47 - 4096 bytes, strings fit an int.
-/
import Derived.Test.YtidpibcopldfpaaLawsF3
namespace Go.Proofs.Ytidpibcopldfpaa
open Go.RowKit

theorem quiet_left' {P : Program} {f : FuncId} {args : Array Value} {w : World} {n : Nat} {v : Value}
    (h : Calls P f args (w.drewN n) fun e w' => e = .returned v ∧ w.drewN n = w') : Calls P f args (w.drewN n) fun e w'' => e = .returned v ∧ ∃ m, w'' = w.drewN m :=
  h.mono fun _ _ ⟨he, hm⟩ => ⟨he, n, hm.symm⟩
theorem quiet_add_left' {P : Program} {f : FuncId} {args : Array Value} {w : World} {a n : Nat} {v : Value}
    (h : Calls P f args (w.drewN (a + n)) fun e w' => e = .returned v ∧ w.drewN (a + n) = w') :
    Calls P f args (w.drewN (a + n)) fun e w'' => e = .returned v ∧ ∃ m, w'' = w.drewN (a + m) :=
  h.mono fun _ _ ⟨he, hm⟩ => ⟨he, n, hm.symm⟩

set_option maxHeartbeats 1000000 in
set_option maxRecDepth 100000 in
theorem law_FnAlphabets32 (s : ByteArray) (p : Int) (s2 : ByteArray) (v : Value) (l : List UInt8) (w : World) (hs : s.size ≤ 140737488351232) (_ : (Lit.int .i64 p).wf = true) (hs2 : s2.size ≤ 140737488351232) (hb : Bys w v l) (hl : l.length ≤ 140737488351232) :
    Calls Try.prog 3 #[.string s, .int .i64 p, .string s2, v] w fun e w' => e = .returned (.bool true) ∧ Below w.heap.size w w' := by
  have HS : Hid (s.size ≤ maxLen) := by show _ ≤ _; unfold maxLen; omega
  have HS2 : Hid (s2.size ≤ maxLen) := by show _ ≤ _; unfold maxLen; omega
  have HY := Lib.hid hb
  obtain ⟨A, c, rfl, hc, hcm, _⟩ := hb
  unfold maxLen at hcm
  clear hs hs2
  cases hv : validB 5 s.data.toList p
  · have HV := Lib.hid hv
    clear hv
    go_enter Try.func3, Try.ntmps3
    go_wp2_with fail
    refine (valid5_any s p _ HS.out).mono ?_
    rintro e w1 ⟨rfl, rfl⟩
    rw [HV.out]
    go_wp2
    go_ret
    exact ⟨rfl, Below.refl _ _⟩
  cases hv2 : validB 5 s2.data.toList p
  · have HV := Lib.hid hv
    have HV2 := Lib.hid hv2
    clear hv hv2
    go_enter Try.func3, Try.ntmps3
    go_wp2_with fail
    refine (valid5_any s p _ HS.out).mono ?_
    rintro e w1 ⟨rfl, rfl⟩
    rw [HV.out]
    go_wp2_with fail
    refine (valid5_any s2 p _ HS2.out).mono ?_
    rintro e w1 ⟨rfl, rfl⟩
    rw [HV2.out]
    go_wp2
    go_ret
    exact ⟨rfl, Below.refl _ _⟩
  have HV := Lib.hid hv
  have HV2 := Lib.hid hv2
  have HVP := Lib.hid (validB_true hv)
  have HVQ := Lib.hid (validB_true hv2)
  clear hv hv2
  obtain ⟨t, HT, ht⟩ := strIs_mk (textOf 5 s.data.toList p l)
  obtain ⟨u, HU, hu⟩ := strIs_mk (textOf 5 s2.data.toList p l)
  have HTN := Lib.hid ht
  have HUN := Lib.hid hu
  have hN1 := charsN5_le l.length
  have hts : t.size = lenN 5 p l.length := by rw [HT.size, textOf_length5]
  have hus : u.size = lenN 5 p l.length := by rw [HU.size, textOf_length5]
  have hfc := lenN5_facts p l.length
  obtain ⟨N, hN⟩ : ∃ N, N = charsN 5 l.length := ⟨_, rfl⟩
  have HCN : Hid (chars 5 (l.length : Int) = (N : Int)) := by show _ = _; rw [chars5_N, hN]
  have HLN : Hid (lenOf 5 p (l.length : Int) = (t.size : Int)) := by show _ = _; rw [lenOf5_N, hts]
  have HLO : Hid (∀ k, k < N → (hk : k < t.size) → (hk' : k < u.size) → ∃ x : Nat, idx s.data.toList ((t[k].toNat : Nat) : Int) = (x : Int) ∧ idx s2.data.toList ((u[k].toNat : Nat) : Int) = (x : Int)) := fun k h1 h2 h3 => by
    obtain ⟨x, hx1, _, _, hx4⟩ := text5_letter HVP.out l k (by omega) _ (HT.at k h2)
    obtain ⟨y, hy1, _, _, hy4⟩ := text5_letter HVQ.out l k (by omega) _ (HU.at k h3)
    rw [hx1] at hy1
    simp only [Option.some.injEq] at hy1
    subst hy1
    exact ⟨x, hx4, hy4⟩
  have HHI : Hid (∀ k, N ≤ k → (hk : k < t.size) → (hk' : k < u.size) → t[k] = u[k]) := fun k h1 h2 h3 => by
    have g1 := text5_pad s.data.toList p l k (by omega) (by omega)
    have g2 := text5_pad s2.data.toList p l k (by omega) (by omega)
    have g3 := HT.at k h2
    have g4 := HU.at k h3
    rw [g1.1] at g3
    rw [g2.1] at g4
    simp only [Option.some.injEq] at g3 g4
    rw [← g3, ← g4]
  have hut : u.size ≤ t.size := by omega
  have htu : t.size ≤ u.size := by omega
  have hbig : t.size ≤ 2 * l.length + 8 := by omega
  have hNt : N ≤ t.size := by omega
  have hNb : N ≤ 2 * l.length := by omega
  clear hts hus hfc HT HU ht hu hN1 hN
  go_enter Try.func3, Try.ntmps3
  go_wp2_with fail
  refine (valid5_any s p _ HS.out).mono ?_
  rintro e w1 ⟨rfl, rfl⟩
  rw [HV.out]
  go_wp2_with fail
  refine (valid5_any s2 p _ HS2.out).mono ?_
  rintro e w1 ⟨rfl, rfl⟩
  rw [HV2.out]
  go_wp2_with fail
  refine (encode32I s p _ l _ HVP.out HY.out hl).mono ?_
  rintro e w2 ⟨rfl, hb2⟩
  rw [HTN.out]
  have HB2 := Lib.hid hb2
  clear hb2
  go_wp2_with fail
  refine (encode32I s2 p _ l _ HVQ.out (HY.out.below HB2.out) hl).mono ?_
  rintro e w3 ⟨rfl, hb3⟩
  rw [HUN.out]
  have HB3 := Lib.hid (below_trans' HB2.out hb3)
  clear hb3
  go_wp2_with fail
  refine (chars5_any (l.length : Int) _ (by omega) (by omega)).mono ?_
  rintro e w5 ⟨rfl, q1, rfl⟩
  rw [HCN.out]
  go_wp2_with fail
  refine (length5_any p (l.length : Int) _ (by omega) (by omega)).mono ?_
  rintro e w6 ⟨rfl, q2, rfl⟩
  rw [HLN.out]
  go_wp2_with fail
  go_loopw [12] (fun i wr => ∃ k : Nat, k ≤ t.size ∧ i = .int .i64 k ∧ Hid (Below w.heap.size w wr)) (fun i _ => t.size - (intOf i).toNat)
  case atStart => exact ⟨0, Nat.zero_le _, rfl, below_drewN HB3.out _⟩
  case round =>
    obtain ⟨k, hk, rfl, hbel⟩ := hrel
    by_cases hlt : k < t.size
    · have hltu : k < u.size := by omega
      have j0 : (0 : Int) ≤ (k : Int) := by omega
      have j1 : (k : Int) < (t.size : Int) := by omega
      have j2 : (k : Int) < (u.size : Int) := by omega
      by_cases hn : k < N
      · obtain ⟨x, hx1, hx2⟩ := HLO.out k hn hlt hltu
        have c1 : decide ((k : Int) < (N : Int)) = true := by simp; omega
        have c2 : decide ((N : Int) ≤ (k : Int)) = false := by simp; omega
        have c3 : decide (k < N) = true := by simp; omega
        have c4 : decide (N ≤ k) = false := by simp; omega
        have c5 : decide ((x : Int) < 0) = false := by simp
        have c6 : ((x : Int) != (x : Int)) = false := by simp
        go_wp2
        go_quiet ((go_at_call 16; refine quiet_left' (index_any _ _ _ ?_); first | exact HS.out | exact HS2.out))
        go_wp2
        go_roundw
        case rel => exact ⟨k + 1, by omega, by go_num, below_drewN hbel.out _⟩
        case measure => simp [intOf]; omega
      · have HE := Lib.hid (HHI.out k (by omega) hlt hltu)
        have c1 : decide ((k : Int) < (N : Int)) = false := by simp; omega
        have c2 : decide ((N : Int) ≤ (k : Int)) = true := by simp; omega
        have c3 : decide (k < N) = false := by simp; omega
        have c4 : decide (N ≤ k) = true := by simp; omega
        have c5 : (((t[k].toNat : Nat) : Int) != ((u[k].toNat : Nat) : Int)) = false := by rw [HE.out]; simp
        go_wp2
        go_quiet (fail)
        go_wp2
        go_roundw
        case rel => exact ⟨k + 1, by omega, by go_num, below_drewN hbel.out _⟩
        case measure => simp [intOf]; omega
    · go_wp2
      go_ret
      exact ⟨rfl, hbel.out⟩

end Go.Proofs.Ytidpibcopldfpaa
