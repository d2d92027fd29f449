/-
  The contract of the reference's function Text: it returns the text of some bytes. Conditions: the alphabet and the padding are valid; at most 2 ^ 47 - 4096 bytes.
-/
import Derived.Test.YtkiipbpcaakkoaaSpecC
import Derived.Test.YtkiipbpcaakkoaaBits
import Derived.Deep.DeepAppendWide
namespace Go.Proofs.Ytkiipbpcaakkoaa
open Go.RowKit

theorem byteInfo' : (Try.prog.info? 5).map (fun i => (i.zero, i.size, i.bytes)) = some (some (.int .u8 0), 1, 1) := by kernel_rfl

theorem valTo_lt (bits : Nat) (l : List UInt8) (i : Nat) : ∀ m, valTo bits l i m < 2 ^ m
  | 0 => by simp [valTo]
  | m + 1 => by
    have h := valTo_lt bits l i m
    have hb : bitAt l (bits * i + m) < 2 := Nat.mod_lt _ (by omega)
    rw [valTo, Nat.pow_succ]
    omega

theorem bit_at (v : Value) (l : List UInt8) (kI : Int) (k : Nat) (w : World) (hkI : kI = (k : Int)) (h : Bys w v l) (hk : k ≤ 1152921504606846976) :
    Calls Try.prog 19 #[v, .int .i64 kI] w fun e w' => e = .returned (.int .i64 ((bitAt l k : Nat) : Int)) ∧ w = w' := by
  subst hkI
  exact bit_any v l k w h hk

theorem owns_start {w : World} {q : Nat} {E : TypeId} : ((w.alloc (.cells #[] E)).drewN q).ownsRow w.heap.size E 1 (.slice (some ⟨w.heap.size, 0, none⟩) 0 0) 0 [] :=
  ⟨rfl, Or.inr ⟨w.heap.size, 0, #[], rfl, Nat.le_refl _, heap_alloc_new w _, Nat.le_refl _, by unfold maxLen; omega, rfl, rfl⟩⟩

theorem pow_small (m k : Nat) (h : m ≤ k) : 2 ^ m ≤ 2 ^ k := Nat.pow_le_pow_right (by decide) h
theorem owns_form {w : World} {B : Nat} {E : TypeId} {v : Value} {n : Nat} {xs : List Value} (h : w.ownsRow B E 1 v n xs) : ∃ A c, v = .slice A n c ∧ n ≤ c ∧ c ≤ maxLen := by
  rcases h.2 with ⟨rfl, rfl⟩ | ⟨g, cap, cur, rfl, _, _, h1, h2, _⟩
  · exact ⟨none, 0, rfl, Nat.le_refl _, Nat.zero_le _⟩
  · exact ⟨_, cap, rfl, h1, h2⟩
theorem owns_bys {w : World} {B : Nat} {E : TypeId} {v : Value} {n : Nat} {l : List UInt8} (h : w.ownsRow B E 1 v n (Lib.byteCells l)) : Bys w v l := by
  have hl := h.1
  rw [Lib.byteCells_length, Nat.mul_one] at hl
  rcases h.2 with ⟨rfl, rfl⟩ | ⟨g, cap, cur, rfl, _, hg, h1, h2, _, h4⟩
  · refine ⟨none, 0, by rw [hl], by omega, Nat.zero_le _, fun hp => by omega⟩
  · subst hl
    refine ⟨_, cap, rfl, h1, h2, fun _ => ⟨g, 0, rfl, (Array.getElem?_eq_some_iff.1 hg).1, fun j x hj => ?_⟩⟩
    rw [Nat.zero_add, cell_of_row w g j cur E (0, 0) hg]
    have h5 := byteCells_at l j x hj
    rw [← h4, List.getElem?_take] at h5
    split at h5
    · simpa using h5
    · cases h5
theorem append_step {w0 w w1 : World} {o : Obj} {B : Nat} {E : TypeId} {v : Value} {n : Nat} {xs : List Value} (hb : Below B w0 w) (hB : B ≤ w.heap.size) (hown : w.ownsRow B E 1 v n xs) (hg : (w.alloc o).grownBy w1 v.ownBlock) : Below B w0 w1 :=
  (hb.alloc hB o).grown hg (by simp; omega) (fun k hk => (hown.lt k hk).1)

theorem take_one {α : Type} (L : List α) (k : Nat) (x : α) (h : L[k]? = some x) : L.take (k + 1) = L.take k ++ [x] := by
  rw [List.take_add_one, h]
  rfl

theorem charsN6_le (n : Nat) : charsN 6 n ≤ 2 * n := by unfold charsN; omega
theorem charsN6_wide (n : Nat) : 6 * charsN 6 n ≤ 8 * n + 6 := by unfold charsN; omega
theorem chars6_N (n : Nat) : chars 6 (n : Int) = ((charsN 6 n : Nat) : Int) := by unfold chars charsN; omega

theorem padN6_le (p : Int) (n : Nat) : padN 6 p n ≤ 7 ∧ (p < 0 → padN 6 p n = 0) := by
  unfold padN
  refine ⟨?_, fun h => by rw [if_pos h]⟩
  rw [show grpN 6 = 4 from rfl]
  split <;> omega
theorem lenOf6_N (p : Int) (n : Nat) : lenOf 6 p (n : Int) = ((lenN 6 p n : Nat) : Int) := by
  unfold lenOf lenN padN
  rw [chars6_N, show grpN 6 = 4 from rfl, show grp 6 = 4 from rfl]
  split <;> omega

set_option maxHeartbeats 2000000 in
theorem text6_any (s : ByteArray) (p : Int) (v : Value) (l : List UInt8) (w : World) (hv : validP 6 s.data.toList p) (hs : Bys w v l) (hl : l.length ≤ 140737488351232) :
    Calls Try.prog 11 #[.int .i64 6, .string s, .int .i64 p, v] w fun e w' => e = .returned (.string ⟨(textOf 6 s.data.toList p l).toArray⟩) ∧ Below w.heap.size w w' := by
  have HV := Lib.hid hv
  have HS := Lib.hid hs
  have hp1 := hv.2.1
  have hp2 := hv.2.2.1
  have hz : s.size = 64 := by have := hv.1; simpa using this
  have hz1 : s.size ≤ 64 := by omega
  have hz2 : 64 ≤ s.size := by omega
  clear hv hz
  have HCI := Lib.hid (chars6_N l.length)
  have hcle := charsN6_le l.length
  have hcw := charsN6_wide l.length
  obtain ⟨N, hN⟩ : ∃ N, N = charsN 6 l.length := ⟨_, rfl⟩
  rw [← hN] at hcle hcw
  have HN := Lib.hid hN
  clear hN
  obtain ⟨A, c, rfl, hc, hcm, _⟩ := hs
  unfold maxLen at hcm
  obtain ⟨i0, hi, hz0, hz1', hz2'⟩ := info_parts byteInfo'
  go_enter Try.func11, Try.ntmps11
  go_wp2_with fail
  refine (chars6_any (l.length : Int) _ (by omega) (by omega)).mono ?_
  rintro e w1 ⟨rfl, q1, rfl⟩
  rw [HCI.out, ← HN.out]
  go_wp2_with fail
  have HLl : Hid ((lettersOf 6 s.data.toList l).length = N) := by show _ = _; rw [lettersOf_length6, HN.out]
  go_loopw [9, 11] (fun v i wr => ∃ k : Nat, k ≤ N ∧ i = .int .i64 k ∧ Hid (wr.ownsRow w.heap.size 5 1 v k (Lib.byteCells ((lettersOf 6 s.data.toList l).take k))) ∧ Hid (Below w.heap.size w wr)) (fun _ i _ => N - (intOf i).toNat)
  case atStart => exact ⟨0, Nat.zero_le _, rfl, owns_start, below_drewN ((Below.refl _ w).alloc (Nat.le_refl _) _) q1⟩
  case round =>
    obtain ⟨k, hk, rfl, hown, hbel⟩ := hrel
    by_cases hlt : k < N
    · go_wp2_with fail
      obtain ⟨wo, rfl⟩ : ∃ wo : World, wo = wr := ⟨_, rfl⟩
      go_loop [12, 13] (fun vv kk => ∃ m : Nat, m ≤ 6 ∧ kk = .int .i64 m ∧ vv = .int .i64 ((valTo 6 l k m : Nat) : Int)) (fun _ kk => 6 - (intOf kk).toNat)
      case atStart => exact ⟨0, Nat.zero_le _, rfl, rfl⟩
      case round =>
        obtain ⟨m, hm, rfl, rfl⟩ := hrel
        have hVlt := valTo_lt 6 l k m
        have hVle : valTo 6 l k m < 64 := Nat.lt_of_lt_of_le hVlt (pow_small m 6 hm)
        clear hVlt
        by_cases hmlt : m < 6
        · have hbt : bitAt l (6 * k + m) < 2 := Nat.mod_lt _ (by omega)
          have HVS : Hid (valTo 6 l k (m + 1) = 2 * valTo 6 l k m + bitAt l (6 * k + m)) := rfl
          obtain ⟨V, hV⟩ : ∃ V, V = valTo 6 l k m := ⟨_, rfl⟩
          rw [← hV] at hVle
          rw [← hV]
          have HVV := Lib.hid hV
          clear hV
          go_wp2_with fail
          refine (bit_at _ l _ (6 * k + m) _ (by omega) (HS.out.below hbel.out) (by omega)).mono ?_
          rintro e w' ⟨rfl, rfl⟩
          obtain ⟨bt, hbt'⟩ : ∃ b, b = bitAt l (6 * k + m) := ⟨_, rfl⟩
          rw [← hbt'] at hbt
          rw [← hbt']
          have HBT := Lib.hid hbt'
          clear hbt'
          go_wp2
          go_round
          case rel =>
            refine ⟨m + 1, by omega, by go_num, ?_⟩
            rw [HVS.out, ← HVV.out, ← HBT.out]
            go_num
          case measure => simp [intOf]; omega
        · obtain rfl : m = 6 := by omega
          obtain ⟨V, hV⟩ : ∃ V, V = valTo 6 l k 6 := ⟨_, rfl⟩
          rw [← hV] at hVle
          rw [← hV]
          have hVs : V < s.size := by omega
          have HL : Hid ((lettersOf 6 s.data.toList l)[k]? = some (letter s.data.toList V)) := by
            show _ = _
            unfold lettersOf
            rw [← codes_bits 6 (by omega) l, List.map_map, List.getElem?_map, List.getElem?_range (by rw [← HN.out]; exact hlt)]
            simp [← hV]
          have HLV : Hid (letter s.data.toList V = s[V]) := letter_at _ _ (by simpa using hVs)
          clear hV
          go_wp2_with (first
            | (at_builtin
               refine wpList_append_own_wide _ rfl _ _ 22 rfl w.heap.size 5 i0 (.int .u8 0) 1 1 Try.underlying22 hi hz0 hz1' hz2' rfl (by decide) _ _ _ rfl (hown.out.alloc _) ⟨wo.heap.size, 0, none⟩ 1 1 [.int .u8 (s[V].toNat : Int)] rfl rfl (cell_one_new _ _ _) (by intro u hu; simp at hu; subst hu; rfl) (by unfold maxLen; omega) (by omega) (by have := hbel.out.size; simp; omega) ?_
               intro v' w1 hown' hgrow _)
            | fail)
          go_roundw
          case rel =>
            refine ⟨k + 1, by omega, by go_num, ?_, append_step hbel.out hbel.out.size hown.out hgrow⟩
            have e : Lib.byteCells ((lettersOf 6 s.data.toList l).take (k + 1)) = Lib.byteCells ((lettersOf 6 s.data.toList l).take k) ++ [.int .u8 (s[V].toNat : Int)] := by
              rw [take_one _ _ _ HL.out, Lib.byteCells_append, HLV.out]
              rfl
            rw [e]
            exact hown'
          case measure => simp [intOf]; omega
    · obtain rfl : k = N := by omega
      obtain ⟨A1, cap1, rfl, hcap1, hcap2⟩ := owns_form hown.out
      unfold maxLen at hcap2
      have HLN := Lib.hid (lenOf6_N p l.length)
      have hM1 : lenN 6 p l.length = k + padN 6 p l.length := by unfold lenN; rw [← HN.out]
      have hpd : padN 6 p l.length ≤ 7 ∧ (p < 0 → padN 6 p l.length = 0) := padN6_le p l.length
      obtain ⟨M, hM⟩ : ∃ M, M = lenN 6 p l.length := ⟨_, rfl⟩
      rw [← hM] at hM1
      have HM := Lib.hid hM
      have hM2 : k ≤ M ∧ M ≤ k + 7 := by omega
      have HP0 : Hid (k < M → 0 ≤ p) := fun h => by have := hpd.2; omega
      have HMM := Lib.hid hM1
      clear hM hM1 hpd
      have HT : Hid (∀ j, k ≤ j → j < M → (textOf 6 s.data.toList p l)[j]? = some (padB p)) := fun j h1 h2 => by
        unfold textOf
        rw [List.getElem?_append_right (by rw [HLl.out]; exact h1), HLl.out, List.getElem?_replicate, if_pos (by have := HMM.out; omega)]
      have HT0 : Hid ((lettersOf 6 s.data.toList l).take k = (textOf 6 s.data.toList p l).take k) := by
        show _ = _
        unfold textOf
        rw [List.take_append_of_le_length (by rw [HLl.out]; exact Nat.le_refl _)]
      have HTl : Hid ((textOf 6 s.data.toList p l).length = M) := by show _ = _; rw [textOf_length6, HM.out]
      go_wp2_with fail
      obtain ⟨wo, rfl⟩ : ∃ wo : World, wo = wr := ⟨_, rfl⟩
      go_loopw [9] (fun v wr => ∃ j : Nat, k ≤ j ∧ j ≤ M ∧ Hid (wr.ownsRow w.heap.size 5 1 v j (Lib.byteCells ((textOf 6 s.data.toList p l).take j))) ∧ Hid (Below w.heap.size w wr)) (fun v _ => M - lenOfV v)
      case atStart => exact ⟨k, Nat.le_refl _, hM2.1, by rw [← HT0.out]; exact hown, hbel⟩
      case round =>
        clear hcap1 hcap2 hown hbel
        obtain ⟨j, hj1, hj2, hown, hbel⟩ := hrel
        obtain ⟨A1, cap1, rfl, hcap1, hcap2⟩ := owns_form hown.out
        unfold maxLen at hcap2
        go_wp2_with fail
        refine (length6_any p (l.length : Int) _ (by omega) (by omega)).mono ?_
        rintro e w2 ⟨rfl, q2, rfl⟩
        rw [HLN.out, ← HM.out]
        by_cases hjM : j < M
        · have hp0 := HP0.out (by omega)
          go_wp2_with (first
            | (at_builtin
               refine wpList_append_own_wide _ rfl _ _ 22 rfl w.heap.size 5 i0 (.int .u8 0) 1 1 Try.underlying22 hi hz0 hz1' hz2' rfl (by decide) _ _ _ rfl (show ((wr.alloc _).drewN q2).ownsRow _ _ _ _ _ _ from hown.out.alloc _) ⟨wr.heap.size, 0, none⟩ 1 1 [.int .u8 p] rfl rfl (cell_one_new _ _ _) (by intro u hu; simp at hu; subst hu; rfl) (by unfold maxLen; omega) (by omega) (by have := hbel.out.size; simp; omega) ?_
               intro v' w1 hown' hgrow _)
            | fail)
          go_roundw
          case rel =>
            refine ⟨j + 1, by omega, by omega, ?_, append_step (w := wr.drewN q2) (below_drewN hbel.out q2) hbel.out.size hown.out hgrow⟩
            have e : Lib.byteCells ((textOf 6 s.data.toList p l).take (j + 1)) = Lib.byteCells ((textOf 6 s.data.toList p l).take j) ++ [.int .u8 p] := by
              rw [take_one _ _ _ (HT.out j hj1 hjM), Lib.byteCells_append]
              congr 1
              simp [Lib.byteCells, padB_toNat p hp0 hp2]
            rw [e]
            exact hown'
          case measure =>
            obtain ⟨A2, c2, rfl, _, _⟩ := owns_form hown'
            simp [lenOfV]; omega
        · obtain rfl : j = M := by omega
          have hby := owns_bys hown.out
          rw [List.take_of_length_le (by rw [HTl.out]; exact Nat.le_refl _)] at hby
          have hcv := run_to_string (P := Try.prog) (w := wr.drewN q2) 22 5 9 Try.underlying22 Try.underlying5 Try.underlying9 _ _ hby
          clear hby
          go_wp2
          go_ret
          exact ⟨rfl, below_drewN hbel.out q2⟩

theorem charsN5_le (n : Nat) : charsN 5 n ≤ 2 * n := by unfold charsN; omega
theorem charsN5_wide (n : Nat) : 5 * charsN 5 n ≤ 8 * n + 5 := by unfold charsN; omega
theorem chars5_N (n : Nat) : chars 5 (n : Int) = ((charsN 5 n : Nat) : Int) := by unfold chars charsN; omega

theorem padN5_le (p : Int) (n : Nat) : padN 5 p n ≤ 7 ∧ (p < 0 → padN 5 p n = 0) := by
  unfold padN
  refine ⟨?_, fun h => by rw [if_pos h]⟩
  rw [show grpN 5 = 8 from rfl]
  split <;> omega
theorem lenOf5_N (p : Int) (n : Nat) : lenOf 5 p (n : Int) = ((lenN 5 p n : Nat) : Int) := by
  unfold lenOf lenN padN
  rw [chars5_N, show grpN 5 = 8 from rfl, show grp 5 = 8 from rfl]
  split <;> omega

set_option maxHeartbeats 2000000 in
theorem text5_any (s : ByteArray) (p : Int) (v : Value) (l : List UInt8) (w : World) (hv : validP 5 s.data.toList p) (hs : Bys w v l) (hl : l.length ≤ 140737488351232) :
    Calls Try.prog 11 #[.int .i64 5, .string s, .int .i64 p, v] w fun e w' => e = .returned (.string ⟨(textOf 5 s.data.toList p l).toArray⟩) ∧ Below w.heap.size w w' := by
  have HV := Lib.hid hv
  have HS := Lib.hid hs
  have hp1 := hv.2.1
  have hp2 := hv.2.2.1
  have hz : s.size = 32 := by have := hv.1; simpa using this
  have hz1 : s.size ≤ 32 := by omega
  have hz2 : 32 ≤ s.size := by omega
  clear hv hz
  have HCI := Lib.hid (chars5_N l.length)
  have hcle := charsN5_le l.length
  have hcw := charsN5_wide l.length
  obtain ⟨N, hN⟩ : ∃ N, N = charsN 5 l.length := ⟨_, rfl⟩
  rw [← hN] at hcle hcw
  have HN := Lib.hid hN
  clear hN
  obtain ⟨A, c, rfl, hc, hcm, _⟩ := hs
  unfold maxLen at hcm
  obtain ⟨i0, hi, hz0, hz1', hz2'⟩ := info_parts byteInfo'
  go_enter Try.func11, Try.ntmps11
  go_wp2_with fail
  refine (chars5_any (l.length : Int) _ (by omega) (by omega)).mono ?_
  rintro e w1 ⟨rfl, q1, rfl⟩
  rw [HCI.out, ← HN.out]
  go_wp2_with fail
  have HLl : Hid ((lettersOf 5 s.data.toList l).length = N) := by show _ = _; rw [lettersOf_length5, HN.out]
  go_loopw [9, 11] (fun v i wr => ∃ k : Nat, k ≤ N ∧ i = .int .i64 k ∧ Hid (wr.ownsRow w.heap.size 5 1 v k (Lib.byteCells ((lettersOf 5 s.data.toList l).take k))) ∧ Hid (Below w.heap.size w wr)) (fun _ i _ => N - (intOf i).toNat)
  case atStart => exact ⟨0, Nat.zero_le _, rfl, owns_start, below_drewN ((Below.refl _ w).alloc (Nat.le_refl _) _) q1⟩
  case round =>
    obtain ⟨k, hk, rfl, hown, hbel⟩ := hrel
    by_cases hlt : k < N
    · go_wp2_with fail
      obtain ⟨wo, rfl⟩ : ∃ wo : World, wo = wr := ⟨_, rfl⟩
      go_loop [12, 13] (fun vv kk => ∃ m : Nat, m ≤ 5 ∧ kk = .int .i64 m ∧ vv = .int .i64 ((valTo 5 l k m : Nat) : Int)) (fun _ kk => 5 - (intOf kk).toNat)
      case atStart => exact ⟨0, Nat.zero_le _, rfl, rfl⟩
      case round =>
        obtain ⟨m, hm, rfl, rfl⟩ := hrel
        have hVlt := valTo_lt 5 l k m
        have hVle : valTo 5 l k m < 32 := Nat.lt_of_lt_of_le hVlt (pow_small m 5 hm)
        clear hVlt
        by_cases hmlt : m < 5
        · have hbt : bitAt l (5 * k + m) < 2 := Nat.mod_lt _ (by omega)
          have HVS : Hid (valTo 5 l k (m + 1) = 2 * valTo 5 l k m + bitAt l (5 * k + m)) := rfl
          obtain ⟨V, hV⟩ : ∃ V, V = valTo 5 l k m := ⟨_, rfl⟩
          rw [← hV] at hVle
          rw [← hV]
          have HVV := Lib.hid hV
          clear hV
          go_wp2_with fail
          refine (bit_at _ l _ (5 * k + m) _ (by omega) (HS.out.below hbel.out) (by omega)).mono ?_
          rintro e w' ⟨rfl, rfl⟩
          obtain ⟨bt, hbt'⟩ : ∃ b, b = bitAt l (5 * k + m) := ⟨_, rfl⟩
          rw [← hbt'] at hbt
          rw [← hbt']
          have HBT := Lib.hid hbt'
          clear hbt'
          go_wp2
          go_round
          case rel =>
            refine ⟨m + 1, by omega, by go_num, ?_⟩
            rw [HVS.out, ← HVV.out, ← HBT.out]
            go_num
          case measure => simp [intOf]; omega
        · obtain rfl : m = 5 := by omega
          obtain ⟨V, hV⟩ : ∃ V, V = valTo 5 l k 5 := ⟨_, rfl⟩
          rw [← hV] at hVle
          rw [← hV]
          have hVs : V < s.size := by omega
          have HL : Hid ((lettersOf 5 s.data.toList l)[k]? = some (letter s.data.toList V)) := by
            show _ = _
            unfold lettersOf
            rw [← codes_bits 5 (by omega) l, List.map_map, List.getElem?_map, List.getElem?_range (by rw [← HN.out]; exact hlt)]
            simp [← hV]
          have HLV : Hid (letter s.data.toList V = s[V]) := letter_at _ _ (by simpa using hVs)
          clear hV
          go_wp2_with (first
            | (at_builtin
               refine wpList_append_own_wide _ rfl _ _ 22 rfl w.heap.size 5 i0 (.int .u8 0) 1 1 Try.underlying22 hi hz0 hz1' hz2' rfl (by decide) _ _ _ rfl (hown.out.alloc _) ⟨wo.heap.size, 0, none⟩ 1 1 [.int .u8 (s[V].toNat : Int)] rfl rfl (cell_one_new _ _ _) (by intro u hu; simp at hu; subst hu; rfl) (by unfold maxLen; omega) (by omega) (by have := hbel.out.size; simp; omega) ?_
               intro v' w1 hown' hgrow _)
            | fail)
          go_roundw
          case rel =>
            refine ⟨k + 1, by omega, by go_num, ?_, append_step hbel.out hbel.out.size hown.out hgrow⟩
            have e : Lib.byteCells ((lettersOf 5 s.data.toList l).take (k + 1)) = Lib.byteCells ((lettersOf 5 s.data.toList l).take k) ++ [.int .u8 (s[V].toNat : Int)] := by
              rw [take_one _ _ _ HL.out, Lib.byteCells_append, HLV.out]
              rfl
            rw [e]
            exact hown'
          case measure => simp [intOf]; omega
    · obtain rfl : k = N := by omega
      obtain ⟨A1, cap1, rfl, hcap1, hcap2⟩ := owns_form hown.out
      unfold maxLen at hcap2
      have HLN := Lib.hid (lenOf5_N p l.length)
      have hM1 : lenN 5 p l.length = k + padN 5 p l.length := by unfold lenN; rw [← HN.out]
      have hpd : padN 5 p l.length ≤ 7 ∧ (p < 0 → padN 5 p l.length = 0) := padN5_le p l.length
      obtain ⟨M, hM⟩ : ∃ M, M = lenN 5 p l.length := ⟨_, rfl⟩
      rw [← hM] at hM1
      have HM := Lib.hid hM
      have hM2 : k ≤ M ∧ M ≤ k + 7 := by omega
      have HP0 : Hid (k < M → 0 ≤ p) := fun h => by have := hpd.2; omega
      have HMM := Lib.hid hM1
      clear hM hM1 hpd
      have HT : Hid (∀ j, k ≤ j → j < M → (textOf 5 s.data.toList p l)[j]? = some (padB p)) := fun j h1 h2 => by
        unfold textOf
        rw [List.getElem?_append_right (by rw [HLl.out]; exact h1), HLl.out, List.getElem?_replicate, if_pos (by have := HMM.out; omega)]
      have HT0 : Hid ((lettersOf 5 s.data.toList l).take k = (textOf 5 s.data.toList p l).take k) := by
        show _ = _
        unfold textOf
        rw [List.take_append_of_le_length (by rw [HLl.out]; exact Nat.le_refl _)]
      have HTl : Hid ((textOf 5 s.data.toList p l).length = M) := by show _ = _; rw [textOf_length5, HM.out]
      go_wp2_with fail
      obtain ⟨wo, rfl⟩ : ∃ wo : World, wo = wr := ⟨_, rfl⟩
      go_loopw [9] (fun v wr => ∃ j : Nat, k ≤ j ∧ j ≤ M ∧ Hid (wr.ownsRow w.heap.size 5 1 v j (Lib.byteCells ((textOf 5 s.data.toList p l).take j))) ∧ Hid (Below w.heap.size w wr)) (fun v _ => M - lenOfV v)
      case atStart => exact ⟨k, Nat.le_refl _, hM2.1, by rw [← HT0.out]; exact hown, hbel⟩
      case round =>
        clear hcap1 hcap2 hown hbel
        obtain ⟨j, hj1, hj2, hown, hbel⟩ := hrel
        obtain ⟨A1, cap1, rfl, hcap1, hcap2⟩ := owns_form hown.out
        unfold maxLen at hcap2
        go_wp2_with fail
        refine (length5_any p (l.length : Int) _ (by omega) (by omega)).mono ?_
        rintro e w2 ⟨rfl, q2, rfl⟩
        rw [HLN.out, ← HM.out]
        by_cases hjM : j < M
        · have hp0 := HP0.out (by omega)
          go_wp2_with (first
            | (at_builtin
               refine wpList_append_own_wide _ rfl _ _ 22 rfl w.heap.size 5 i0 (.int .u8 0) 1 1 Try.underlying22 hi hz0 hz1' hz2' rfl (by decide) _ _ _ rfl (show ((wr.alloc _).drewN q2).ownsRow _ _ _ _ _ _ from hown.out.alloc _) ⟨wr.heap.size, 0, none⟩ 1 1 [.int .u8 p] rfl rfl (cell_one_new _ _ _) (by intro u hu; simp at hu; subst hu; rfl) (by unfold maxLen; omega) (by omega) (by have := hbel.out.size; simp; omega) ?_
               intro v' w1 hown' hgrow _)
            | fail)
          go_roundw
          case rel =>
            refine ⟨j + 1, by omega, by omega, ?_, append_step (w := wr.drewN q2) (below_drewN hbel.out q2) hbel.out.size hown.out hgrow⟩
            have e : Lib.byteCells ((textOf 5 s.data.toList p l).take (j + 1)) = Lib.byteCells ((textOf 5 s.data.toList p l).take j) ++ [.int .u8 p] := by
              rw [take_one _ _ _ (HT.out j hj1 hjM), Lib.byteCells_append]
              congr 1
              simp [Lib.byteCells, padB_toNat p hp0 hp2]
            rw [e]
            exact hown'
          case measure =>
            obtain ⟨A2, c2, rfl, _, _⟩ := owns_form hown'
            simp [lenOfV]; omega
        · obtain rfl : j = M := by omega
          have hby := owns_bys hown.out
          rw [List.take_of_length_le (by rw [HTl.out]; exact Nat.le_refl _)] at hby
          have hcv := run_to_string (P := Try.prog) (w := wr.drewN q2) 22 5 9 Try.underlying22 Try.underlying5 Try.underlying9 _ _ hby
          clear hby
          go_wp2
          go_ret
          exact ⟨rfl, below_drewN hbel.out q2⟩

end Go.Proofs.Ytkiipbpcaakkoaa
