/-
  Contracts of the reference's functions Stripped, Whole, Begins, Values: what each returns. Conditions: strings of at most 2 ^ 45 bytes; for Values letters of the alphabet alone.
-/
import Derived.Test.YtejkphobeclefaaSpecT
import Derived.Test.YtejkphobeclefaaVals
import Derived.Test.YtejkphobeclefaaLawsB
namespace Go.Proofs.Ytejkphobeclefaa
open Go.RowKit

theorem str_take_snoc (s : ByteArray) (k : Nat) (h : k < s.size) : s.data.toList.take (k + 1) = s.data.toList.take k ++ [s[k]] := by
  rw [List.take_succ_eq_append_getElem (by simpa using h)]; rfl
theorem isNL_int (c : UInt8) : (((c.toNat : Int) == 13) || ((c.toNat : Int) == 10)) = isNL c := by
  unfold isNL
  rw [Bool.eq_iff_iff]
  simp
  omega
theorem strip_le (s : List UInt8) : (strip s).length ≤ s.length := List.length_filter_le _ _

theorem vcase6_0 (h v : Nat) (hh : h < 1) (hv : v < 64) : bits BinOp.or IntKind.i64 ((h : Int) * 64) (v : Int) = ((h * 64 + v : Nat) : Int) := by
  have := or_i64 h v 6 (by omega) (by omega) (by omega)
  simpa using this
theorem vcase6_2 (h v : Nat) (hh : h < 4) (hv : v < 64) : bits BinOp.or IntKind.i64 ((h : Int) * 64) (v : Int) = ((h * 64 + v : Nat) : Int) := by
  have := or_i64 h v 6 (by omega) (by omega) (by omega)
  simpa using this
theorem vmask6_2 (H : Nat) (hh : H < 256) : bits BinOp.and IntKind.i64 (H : Int) 0 = ((H % 1 : Nat) : Int) := by
  have := and_i64_mask H 0 (by omega) (by omega)
  simpa using this
theorem vcase6_4 (h v : Nat) (hh : h < 16) (hv : v < 64) : bits BinOp.or IntKind.i64 ((h : Int) * 64) (v : Int) = ((h * 64 + v : Nat) : Int) := by
  have := or_i64 h v 6 (by omega) (by omega) (by omega)
  simpa using this
theorem vmask6_4 (H : Nat) (hh : H < 1024) : bits BinOp.and IntKind.i64 (H : Int) 3 = ((H % 4 : Nat) : Int) := by
  have := and_i64_mask H 2 (by omega) (by omega)
  simpa using this
theorem vcase6_6 (h v : Nat) (hh : h < 64) (hv : v < 64) : bits BinOp.or IntKind.i64 ((h : Int) * 64) (v : Int) = ((h * 64 + v : Nat) : Int) := by
  have := or_i64 h v 6 (by omega) (by omega) (by omega)
  simpa using this
theorem vmask6_6 (H : Nat) (hh : H < 4096) : bits BinOp.and IntKind.i64 (H : Int) 15 = ((H % 16 : Nat) : Int) := by
  have := and_i64_mask H 4 (by omega) (by omega)
  simpa using this

set_option maxHeartbeats 4000000 in
theorem values6_any (a s : ByteArray) (p : Int) (w : World) (hv : validP 6 a.data.toList p) (hs : s.size ≤ 225179981368000) (hl : ∀ c ∈ s.data.toList, isL a.data.toList c = true) :
    Calls Try.prog 13 #[.int .i64 6, .string a, .string s] w fun e w' => ∃ v', e = .returned (.tuple #[v', .int .i64 ((unS (s.data.toList.map (numL a.data.toList)) : Nat) : Int)]) ∧ Bys w' v' (unsix (s.data.toList.map (numL a.data.toList))) ∧ Below w.heap.size w w' := by
  obtain ⟨i0, hi, hz0, hz1', hz2'⟩ := info_parts byteInfo'
  have HLs : Hid (s.data.toList.length = s.size) := by show _ = _; simp
  have HA : Hid (a.size ≤ maxLen) := by show _ ≤ _; have := hv.1; simp at this; rw [this]; unfold maxLen; omega
  have HL := Lib.hid hl
  have HV := Lib.hid hv
  have HSM : Hid (∀ v ∈ s.data.toList.map (numL a.data.toList), v < 64) := by
    intro v hm
    obtain ⟨c, hc, rfl⟩ := List.mem_map.1 hm
    exact (numL_back hv c (hl c hc)).2
  have HFI : Hid ((vals 6 (s.data.toList.map (numL a.data.toList))).1 = unsix (s.data.toList.map (numL a.data.toList)) ∧ (vals 6 (s.data.toList.map (numL a.data.toList))).2.1 = unS (s.data.toList.map (numL a.data.toList))) := by
    have := vals_six (s.data.toList.map (numL a.data.toList)) [] HSM.out
    rw [List.nil_append] at this
    exact this
  clear hl hv
  go_enter Try.func13, Try.ntmps13
  go_wp2
  go_loopw [8, 9, 10, 11] (fun v hd hv i wr => ∃ k n h m : Nat, k ≤ s.size ∧ n ≤ k ∧ h < 2 ^ m ∧ m < 8 ∧ i = .int .i64 k ∧ hd = .int .i64 h ∧ hv = .int .i64 m ∧ Hid (m % 2 = 0) ∧ Hid (∃ l : List UInt8, vals 6 ((s.data.toList.take k).map (numL a.data.toList)) = (l, h, m) ∧ l.length = n ∧ wr.ownsRow w.heap.size 5 1 v n (Lib.byteCells l)) ∧ Hid (Below w.heap.size w wr)) (fun _ _ _ i _ => s.size - (intOf i).toNat)
  case atStart => exact ⟨0, 0, 0, 0, Nat.zero_le _, Nat.le_refl _, by decide, by decide, rfl, rfl, rfl, (rfl : 0 % 2 = 0), ⟨[], rfl, rfl, (owns_start (q := 0) : _)⟩, (Below.refl _ w).alloc (Nat.le_refl _) _⟩
  case round =>
    obtain ⟨k, n, h, m, hk, hnk, hh, hm, rfl, rfl, rfl, hev, hst, hbel⟩ := hrel
    obtain ⟨l, hvs, hln, how⟩ := hst.out
    have HVS := Lib.hid hvs
    have HLN := Lib.hid hln
    have HOW := Lib.hid how
    clear hst hvs hln how
    by_cases hlt : k < s.size
    · have HSN := Lib.hid (str_take_snoc s k hlt)
      have HLK : Hid (isL a.data.toList s[k] = true) := HL.out _ (by
        have : s[k] = s.data.toList[k]'(by simpa using hlt) := rfl
        rw [this]; exact List.getElem_mem _)
      have hvb : numL a.data.toList s[k] < 64 := (numL_back HV.out _ HLK.out).2
      have HIX : Hid (idx a.data.toList ((s[k].toNat : Nat) : Int) = ((numL a.data.toList s[k] : Nat) : Int)) := by
        show _ = _
        have := HLK.out
        unfold isL at this
        have := of_decide_eq_true this
        unfold numL
        omega
      obtain ⟨V, hV⟩ : ∃ V, V = numL a.data.toList s[k] := ⟨_, rfl⟩
      rw [← hV] at hvb HIX
      have HVV := Lib.hid hV
      clear hV
      rcases (by have := hev.out; omega : m = 0 ∨ m = 2 ∨ m = 4 ∨ m = 6) with rfl | rfl | rfl | rfl
      · have hq : h < 1 := hh
        have hor := vcase6_0 h V hq hvb
        have hH : h * 64 + V < 64 := by omega
        obtain ⟨H, hHe⟩ : ∃ H, H = h * 64 + V := ⟨_, rfl⟩
        rw [← hHe] at hor hH
        have HHe := Lib.hid hHe
        have hw : IntKind.i64.wrap ((h : Int) * 64) = (h : Int) * 64 := by rw [IntKind.wrap_i64]; omega
        clear hHe hh hq
        have hix := HIX.out
        go_wp2
        go_quiet ((go_at_call 15; exact quiet_left' ((index_any a _ _ HA.out).mono fun e w' ⟨he, hw⟩ => ⟨by rw [he, HIX.out], hw⟩)))
        go_wp2
        go_roundw
        case rel =>
          have e : vals 6 ((s.data.toList.take (k + 1)).map (numL a.data.toList)) = (l, H, 6) := by
            rw [HSN.out, List.map_append, List.map_cons, List.map_nil, vals_snoc, HVS.out, ← HVV.out, v6_0, HHe.out]
          exact ⟨k + 1, n, H, 6, by omega, by omega, hH, by omega, by go_num, rfl, by go_num, (by show _ = _; omega), ⟨_, e, HLN.out, HOW.out⟩, below_drewN hbel.out nq⟩
        case measure => simp [intOf]; omega
      · have hq : h < 4 := hh
        have hor := vcase6_2 h V hq hvb
        have hH : h * 64 + V < 256 := by omega
        obtain ⟨H, hHe⟩ : ∃ H, H = h * 64 + V := ⟨_, rfl⟩
        rw [← hHe] at hor hH
        have HHe := Lib.hid hHe
        have hw : IntKind.i64.wrap ((h : Int) * 64) = (h : Int) * 64 := by rw [IntKind.wrap_i64]; omega
        clear hHe hh hq
        have hix := HIX.out
        go_wp2
        go_quiet ((go_at_call 15; exact quiet_left' ((index_any a _ _ HA.out).mono fun e w' ⟨he, hw⟩ => ⟨by rw [he, HIX.out], hw⟩)))
        have hms := vmask6_2 H hH
        have hsh : H / 1 < 256 := by omega
        go_wp2_with (first
          | (at_builtin
             refine wpList_append_own_wide _ rfl _ _ 22 rfl w.heap.size 5 i0 (.int .u8 0) 1 1 Try.underlying22 hi hz0 hz1' hz2' rfl (by decide) _ _ _ rfl (show ((wr.alloc _).drewN nq).ownsRow _ _ _ _ _ _ from HOW.out.alloc _) ⟨wr.heap.size, 0, none⟩ 1 1 [.int .u8 ((H : Int))] rfl rfl (cell_one_new _ _ _) (by intro u hu; simp at hu; subst hu; rfl) (by unfold maxLen; omega) (by omega) (by have := hbel.out.size; simp; omega) ?_
             intro v' w1 hown' hgrow _)
          | fail)
        go_roundw
        case rel =>
          have e : vals 6 ((s.data.toList.take (k + 1)).map (numL a.data.toList)) = (l ++ [UInt8.ofNat (H / 1)], H % 1, 0) := by
            rw [HSN.out, List.map_append, List.map_cons, List.map_nil, vals_snoc, HVS.out, ← HVV.out, v6_2, HHe.out]
          refine ⟨k + 1, n + 1, H % 1, 0, by omega, by omega, Nat.mod_lt _ (by decide), by omega, by go_num, by simp, by go_num, (by show _ = _; omega), ⟨_, e, by rw [List.length_append, HLN.out]; rfl, ?_⟩, append_step (w := wr.drewN nq) (below_drewN hbel.out nq) hbel.out.size HOW.out hgrow⟩
          have e2 : Lib.byteCells (l ++ [UInt8.ofNat (H / 1)]) = Lib.byteCells l ++ [.int .u8 ((H : Int))] := by
            rw [Lib.byteCells_append]
            congr 1
            simp only [Lib.byteCells, List.map_cons, List.map_nil]
            rw [UInt8.toNat_ofNat_of_lt' (by show _ < 256; omega)]
            simp
          rw [e2]
          exact hown'
        case measure => simp [intOf]; omega
      · have hq : h < 16 := hh
        have hor := vcase6_4 h V hq hvb
        have hH : h * 64 + V < 1024 := by omega
        obtain ⟨H, hHe⟩ : ∃ H, H = h * 64 + V := ⟨_, rfl⟩
        rw [← hHe] at hor hH
        have HHe := Lib.hid hHe
        have hw : IntKind.i64.wrap ((h : Int) * 64) = (h : Int) * 64 := by rw [IntKind.wrap_i64]; omega
        clear hHe hh hq
        have hix := HIX.out
        go_wp2
        go_quiet ((go_at_call 15; exact quiet_left' ((index_any a _ _ HA.out).mono fun e w' ⟨he, hw⟩ => ⟨by rw [he, HIX.out], hw⟩)))
        have hms := vmask6_4 H hH
        have hsh : H / 4 < 256 := by omega
        go_wp2_with (first
          | (at_builtin
             refine wpList_append_own_wide _ rfl _ _ 22 rfl w.heap.size 5 i0 (.int .u8 0) 1 1 Try.underlying22 hi hz0 hz1' hz2' rfl (by decide) _ _ _ rfl (show ((wr.alloc _).drewN nq).ownsRow _ _ _ _ _ _ from HOW.out.alloc _) ⟨wr.heap.size, 0, none⟩ 1 1 [.int .u8 ((H : Int) / 4)] rfl rfl (cell_one_new _ _ _) (by intro u hu; simp at hu; subst hu; rfl) (by unfold maxLen; omega) (by omega) (by have := hbel.out.size; simp; omega) ?_
             intro v' w1 hown' hgrow _)
          | fail)
        go_roundw
        case rel =>
          have e : vals 6 ((s.data.toList.take (k + 1)).map (numL a.data.toList)) = (l ++ [UInt8.ofNat (H / 4)], H % 4, 2) := by
            rw [HSN.out, List.map_append, List.map_cons, List.map_nil, vals_snoc, HVS.out, ← HVV.out, v6_4, HHe.out]
          refine ⟨k + 1, n + 1, H % 4, 2, by omega, by omega, Nat.mod_lt _ (by decide), by omega, by go_num, rfl, by go_num, (by show _ = _; omega), ⟨_, e, by rw [List.length_append, HLN.out]; rfl, ?_⟩, append_step (w := wr.drewN nq) (below_drewN hbel.out nq) hbel.out.size HOW.out hgrow⟩
          have e2 : Lib.byteCells (l ++ [UInt8.ofNat (H / 4)]) = Lib.byteCells l ++ [.int .u8 ((H : Int) / 4)] := by
            rw [Lib.byteCells_append]
            congr 1
            simp only [Lib.byteCells, List.map_cons, List.map_nil]
            rw [UInt8.toNat_ofNat_of_lt' (by show _ < 256; omega)]
            simp
          rw [e2]
          exact hown'
        case measure => simp [intOf]; omega
      · have hq : h < 64 := hh
        have hor := vcase6_6 h V hq hvb
        have hH : h * 64 + V < 4096 := by omega
        obtain ⟨H, hHe⟩ : ∃ H, H = h * 64 + V := ⟨_, rfl⟩
        rw [← hHe] at hor hH
        have HHe := Lib.hid hHe
        have hw : IntKind.i64.wrap ((h : Int) * 64) = (h : Int) * 64 := by rw [IntKind.wrap_i64]; omega
        clear hHe hh hq
        have hix := HIX.out
        go_wp2
        go_quiet ((go_at_call 15; exact quiet_left' ((index_any a _ _ HA.out).mono fun e w' ⟨he, hw⟩ => ⟨by rw [he, HIX.out], hw⟩)))
        have hms := vmask6_6 H hH
        have hsh : H / 16 < 256 := by omega
        go_wp2_with (first
          | (at_builtin
             refine wpList_append_own_wide _ rfl _ _ 22 rfl w.heap.size 5 i0 (.int .u8 0) 1 1 Try.underlying22 hi hz0 hz1' hz2' rfl (by decide) _ _ _ rfl (show ((wr.alloc _).drewN nq).ownsRow _ _ _ _ _ _ from HOW.out.alloc _) ⟨wr.heap.size, 0, none⟩ 1 1 [.int .u8 ((H : Int) / 16)] rfl rfl (cell_one_new _ _ _) (by intro u hu; simp at hu; subst hu; rfl) (by unfold maxLen; omega) (by omega) (by have := hbel.out.size; simp; omega) ?_
             intro v' w1 hown' hgrow _)
          | fail)
        go_roundw
        case rel =>
          have e : vals 6 ((s.data.toList.take (k + 1)).map (numL a.data.toList)) = (l ++ [UInt8.ofNat (H / 16)], H % 16, 4) := by
            rw [HSN.out, List.map_append, List.map_cons, List.map_nil, vals_snoc, HVS.out, ← HVV.out, v6_6, HHe.out]
          refine ⟨k + 1, n + 1, H % 16, 4, by omega, by omega, Nat.mod_lt _ (by decide), by omega, by go_num, rfl, by go_num, (by show _ = _; omega), ⟨_, e, by rw [List.length_append, HLN.out]; rfl, ?_⟩, append_step (w := wr.drewN nq) (below_drewN hbel.out nq) hbel.out.size HOW.out hgrow⟩
          have e2 : Lib.byteCells (l ++ [UInt8.ofNat (H / 16)]) = Lib.byteCells l ++ [.int .u8 ((H : Int) / 16)] := by
            rw [Lib.byteCells_append]
            congr 1
            simp only [Lib.byteCells, List.map_cons, List.map_nil]
            rw [UInt8.toNat_ofNat_of_lt' (by show _ < 256; omega)]
            simp
          rw [e2]
          exact hown'
        case measure => simp [intOf]; omega
    · have hby := owns_bys HOW.out
      have hfin := HVS.out
      rw [List.take_of_length_le (by rw [HLs.out]; omega)] at hfin
      have h1 := HFI.out.1
      have h2 := HFI.out.2
      rw [hfin] at h1 h2
      simp only at h1 h2
      have HBY := Lib.hid hby
      have H1 := Lib.hid h1
      have H2 := Lib.hid h2
      clear hby hfin h1 h2
      go_wp2
      go_ret2
      exact ⟨_, by rw [← H2.out]; rfl, by rw [← H1.out]; exact HBY.out, hbel.out⟩

theorem vcase5_0 (h v : Nat) (hh : h < 1) (hv : v < 32) : bits BinOp.or IntKind.i64 ((h : Int) * 32) (v : Int) = ((h * 32 + v : Nat) : Int) := by
  have := or_i64 h v 5 (by omega) (by omega) (by omega)
  simpa using this
theorem vcase5_1 (h v : Nat) (hh : h < 2) (hv : v < 32) : bits BinOp.or IntKind.i64 ((h : Int) * 32) (v : Int) = ((h * 32 + v : Nat) : Int) := by
  have := or_i64 h v 5 (by omega) (by omega) (by omega)
  simpa using this
theorem vcase5_2 (h v : Nat) (hh : h < 4) (hv : v < 32) : bits BinOp.or IntKind.i64 ((h : Int) * 32) (v : Int) = ((h * 32 + v : Nat) : Int) := by
  have := or_i64 h v 5 (by omega) (by omega) (by omega)
  simpa using this
theorem vcase5_3 (h v : Nat) (hh : h < 8) (hv : v < 32) : bits BinOp.or IntKind.i64 ((h : Int) * 32) (v : Int) = ((h * 32 + v : Nat) : Int) := by
  have := or_i64 h v 5 (by omega) (by omega) (by omega)
  simpa using this
theorem vmask5_3 (H : Nat) (hh : H < 256) : bits BinOp.and IntKind.i64 (H : Int) 0 = ((H % 1 : Nat) : Int) := by
  have := and_i64_mask H 0 (by omega) (by omega)
  simpa using this
theorem vcase5_4 (h v : Nat) (hh : h < 16) (hv : v < 32) : bits BinOp.or IntKind.i64 ((h : Int) * 32) (v : Int) = ((h * 32 + v : Nat) : Int) := by
  have := or_i64 h v 5 (by omega) (by omega) (by omega)
  simpa using this
theorem vmask5_4 (H : Nat) (hh : H < 512) : bits BinOp.and IntKind.i64 (H : Int) 1 = ((H % 2 : Nat) : Int) := by
  have := and_i64_mask H 1 (by omega) (by omega)
  simpa using this
theorem vcase5_5 (h v : Nat) (hh : h < 32) (hv : v < 32) : bits BinOp.or IntKind.i64 ((h : Int) * 32) (v : Int) = ((h * 32 + v : Nat) : Int) := by
  have := or_i64 h v 5 (by omega) (by omega) (by omega)
  simpa using this
theorem vmask5_5 (H : Nat) (hh : H < 1024) : bits BinOp.and IntKind.i64 (H : Int) 3 = ((H % 4 : Nat) : Int) := by
  have := and_i64_mask H 2 (by omega) (by omega)
  simpa using this
theorem vcase5_6 (h v : Nat) (hh : h < 64) (hv : v < 32) : bits BinOp.or IntKind.i64 ((h : Int) * 32) (v : Int) = ((h * 32 + v : Nat) : Int) := by
  have := or_i64 h v 5 (by omega) (by omega) (by omega)
  simpa using this
theorem vmask5_6 (H : Nat) (hh : H < 2048) : bits BinOp.and IntKind.i64 (H : Int) 7 = ((H % 8 : Nat) : Int) := by
  have := and_i64_mask H 3 (by omega) (by omega)
  simpa using this
theorem vcase5_7 (h v : Nat) (hh : h < 128) (hv : v < 32) : bits BinOp.or IntKind.i64 ((h : Int) * 32) (v : Int) = ((h * 32 + v : Nat) : Int) := by
  have := or_i64 h v 5 (by omega) (by omega) (by omega)
  simpa using this
theorem vmask5_7 (H : Nat) (hh : H < 4096) : bits BinOp.and IntKind.i64 (H : Int) 15 = ((H % 16 : Nat) : Int) := by
  have := and_i64_mask H 4 (by omega) (by omega)
  simpa using this

set_option maxHeartbeats 4000000 in
theorem values5_any (a s : ByteArray) (p : Int) (w : World) (hv : validP 5 a.data.toList p) (hs : s.size ≤ 225179981368000) (hl : ∀ c ∈ s.data.toList, isL a.data.toList c = true) :
    Calls Try.prog 13 #[.int .i64 5, .string a, .string s] w fun e w' => ∃ v', e = .returned (.tuple #[v', .int .i64 ((unF (s.data.toList.map (numL a.data.toList)) : Nat) : Int)]) ∧ Bys w' v' (unfive (s.data.toList.map (numL a.data.toList))) ∧ Below w.heap.size w w' := by
  obtain ⟨i0, hi, hz0, hz1', hz2'⟩ := info_parts byteInfo'
  have HLs : Hid (s.data.toList.length = s.size) := by show _ = _; simp
  have HA : Hid (a.size ≤ maxLen) := by show _ ≤ _; have := hv.1; simp at this; rw [this]; unfold maxLen; omega
  have HL := Lib.hid hl
  have HV := Lib.hid hv
  have HSM : Hid (∀ v ∈ s.data.toList.map (numL a.data.toList), v < 32) := by
    intro v hm
    obtain ⟨c, hc, rfl⟩ := List.mem_map.1 hm
    exact (numL_back hv c (hl c hc)).2
  have HFI : Hid ((vals 5 (s.data.toList.map (numL a.data.toList))).1 = unfive (s.data.toList.map (numL a.data.toList)) ∧ (vals 5 (s.data.toList.map (numL a.data.toList))).2.1 = unF (s.data.toList.map (numL a.data.toList))) := by
    have := vals_five (s.data.toList.map (numL a.data.toList)) [] HSM.out
    rw [List.nil_append] at this
    exact this
  clear hl hv
  go_enter Try.func13, Try.ntmps13
  go_wp2
  go_loopw [8, 9, 10, 11] (fun v hd hv i wr => ∃ k n h m : Nat, k ≤ s.size ∧ n ≤ k ∧ h < 2 ^ m ∧ m < 8 ∧ i = .int .i64 k ∧ hd = .int .i64 h ∧ hv = .int .i64 m ∧ Hid (m % 1 = 0) ∧ Hid (∃ l : List UInt8, vals 5 ((s.data.toList.take k).map (numL a.data.toList)) = (l, h, m) ∧ l.length = n ∧ wr.ownsRow w.heap.size 5 1 v n (Lib.byteCells l)) ∧ Hid (Below w.heap.size w wr)) (fun _ _ _ i _ => s.size - (intOf i).toNat)
  case atStart => exact ⟨0, 0, 0, 0, Nat.zero_le _, Nat.le_refl _, by decide, by decide, rfl, rfl, rfl, (rfl : 0 % 1 = 0), ⟨[], rfl, rfl, (owns_start (q := 0) : _)⟩, (Below.refl _ w).alloc (Nat.le_refl _) _⟩
  case round =>
    obtain ⟨k, n, h, m, hk, hnk, hh, hm, rfl, rfl, rfl, hev, hst, hbel⟩ := hrel
    obtain ⟨l, hvs, hln, how⟩ := hst.out
    have HVS := Lib.hid hvs
    have HLN := Lib.hid hln
    have HOW := Lib.hid how
    clear hst hvs hln how
    by_cases hlt : k < s.size
    · have HSN := Lib.hid (str_take_snoc s k hlt)
      have HLK : Hid (isL a.data.toList s[k] = true) := HL.out _ (by
        have : s[k] = s.data.toList[k]'(by simpa using hlt) := rfl
        rw [this]; exact List.getElem_mem _)
      have hvb : numL a.data.toList s[k] < 32 := (numL_back HV.out _ HLK.out).2
      have HIX : Hid (idx a.data.toList ((s[k].toNat : Nat) : Int) = ((numL a.data.toList s[k] : Nat) : Int)) := by
        show _ = _
        have := HLK.out
        unfold isL at this
        have := of_decide_eq_true this
        unfold numL
        omega
      obtain ⟨V, hV⟩ : ∃ V, V = numL a.data.toList s[k] := ⟨_, rfl⟩
      rw [← hV] at hvb HIX
      have HVV := Lib.hid hV
      clear hV
      rcases (by have := hev.out; omega : m = 0 ∨ m = 1 ∨ m = 2 ∨ m = 3 ∨ m = 4 ∨ m = 5 ∨ m = 6 ∨ m = 7) with rfl | rfl | rfl | rfl | rfl | rfl | rfl | rfl
      · have hq : h < 1 := hh
        have hor := vcase5_0 h V hq hvb
        have hH : h * 32 + V < 32 := by omega
        obtain ⟨H, hHe⟩ : ∃ H, H = h * 32 + V := ⟨_, rfl⟩
        rw [← hHe] at hor hH
        have HHe := Lib.hid hHe
        have hw : IntKind.i64.wrap ((h : Int) * 32) = (h : Int) * 32 := by rw [IntKind.wrap_i64]; omega
        clear hHe hh hq
        have hix := HIX.out
        go_wp2
        go_quiet ((go_at_call 15; exact quiet_left' ((index_any a _ _ HA.out).mono fun e w' ⟨he, hw⟩ => ⟨by rw [he, HIX.out], hw⟩)))
        go_wp2
        go_roundw
        case rel =>
          have e : vals 5 ((s.data.toList.take (k + 1)).map (numL a.data.toList)) = (l, H, 5) := by
            rw [HSN.out, List.map_append, List.map_cons, List.map_nil, vals_snoc, HVS.out, ← HVV.out, v5_0, HHe.out]
          exact ⟨k + 1, n, H, 5, by omega, by omega, hH, by omega, by go_num, rfl, by go_num, (by show _ = _; omega), ⟨_, e, HLN.out, HOW.out⟩, below_drewN hbel.out nq⟩
        case measure => simp [intOf]; omega
      · have hq : h < 2 := hh
        have hor := vcase5_1 h V hq hvb
        have hH : h * 32 + V < 64 := by omega
        obtain ⟨H, hHe⟩ : ∃ H, H = h * 32 + V := ⟨_, rfl⟩
        rw [← hHe] at hor hH
        have HHe := Lib.hid hHe
        have hw : IntKind.i64.wrap ((h : Int) * 32) = (h : Int) * 32 := by rw [IntKind.wrap_i64]; omega
        clear hHe hh hq
        have hix := HIX.out
        go_wp2
        go_quiet ((go_at_call 15; exact quiet_left' ((index_any a _ _ HA.out).mono fun e w' ⟨he, hw⟩ => ⟨by rw [he, HIX.out], hw⟩)))
        go_wp2
        go_roundw
        case rel =>
          have e : vals 5 ((s.data.toList.take (k + 1)).map (numL a.data.toList)) = (l, H, 6) := by
            rw [HSN.out, List.map_append, List.map_cons, List.map_nil, vals_snoc, HVS.out, ← HVV.out, v5_1, HHe.out]
          exact ⟨k + 1, n, H, 6, by omega, by omega, hH, by omega, by go_num, rfl, by go_num, (by show _ = _; omega), ⟨_, e, HLN.out, HOW.out⟩, below_drewN hbel.out nq⟩
        case measure => simp [intOf]; omega
      · have hq : h < 4 := hh
        have hor := vcase5_2 h V hq hvb
        have hH : h * 32 + V < 128 := by omega
        obtain ⟨H, hHe⟩ : ∃ H, H = h * 32 + V := ⟨_, rfl⟩
        rw [← hHe] at hor hH
        have HHe := Lib.hid hHe
        have hw : IntKind.i64.wrap ((h : Int) * 32) = (h : Int) * 32 := by rw [IntKind.wrap_i64]; omega
        clear hHe hh hq
        have hix := HIX.out
        go_wp2
        go_quiet ((go_at_call 15; exact quiet_left' ((index_any a _ _ HA.out).mono fun e w' ⟨he, hw⟩ => ⟨by rw [he, HIX.out], hw⟩)))
        go_wp2
        go_roundw
        case rel =>
          have e : vals 5 ((s.data.toList.take (k + 1)).map (numL a.data.toList)) = (l, H, 7) := by
            rw [HSN.out, List.map_append, List.map_cons, List.map_nil, vals_snoc, HVS.out, ← HVV.out, v5_2, HHe.out]
          exact ⟨k + 1, n, H, 7, by omega, by omega, hH, by omega, by go_num, rfl, by go_num, (by show _ = _; omega), ⟨_, e, HLN.out, HOW.out⟩, below_drewN hbel.out nq⟩
        case measure => simp [intOf]; omega
      · have hq : h < 8 := hh
        have hor := vcase5_3 h V hq hvb
        have hH : h * 32 + V < 256 := by omega
        obtain ⟨H, hHe⟩ : ∃ H, H = h * 32 + V := ⟨_, rfl⟩
        rw [← hHe] at hor hH
        have HHe := Lib.hid hHe
        have hw : IntKind.i64.wrap ((h : Int) * 32) = (h : Int) * 32 := by rw [IntKind.wrap_i64]; omega
        clear hHe hh hq
        have hix := HIX.out
        go_wp2
        go_quiet ((go_at_call 15; exact quiet_left' ((index_any a _ _ HA.out).mono fun e w' ⟨he, hw⟩ => ⟨by rw [he, HIX.out], hw⟩)))
        have hms := vmask5_3 H hH
        have hsh : H / 1 < 256 := by omega
        go_wp2_with (first
          | (at_builtin
             refine wpList_append_own_wide _ rfl _ _ 22 rfl w.heap.size 5 i0 (.int .u8 0) 1 1 Try.underlying22 hi hz0 hz1' hz2' rfl (by decide) _ _ _ rfl (show ((wr.alloc _).drewN nq).ownsRow _ _ _ _ _ _ from HOW.out.alloc _) ⟨wr.heap.size, 0, none⟩ 1 1 [.int .u8 ((H : Int))] rfl rfl (cell_one_new _ _ _) (by intro u hu; simp at hu; subst hu; rfl) (by unfold maxLen; omega) (by omega) (by have := hbel.out.size; simp; omega) ?_
             intro v' w1 hown' hgrow _)
          | fail)
        go_roundw
        case rel =>
          have e : vals 5 ((s.data.toList.take (k + 1)).map (numL a.data.toList)) = (l ++ [UInt8.ofNat (H / 1)], H % 1, 0) := by
            rw [HSN.out, List.map_append, List.map_cons, List.map_nil, vals_snoc, HVS.out, ← HVV.out, v5_3, HHe.out]
          refine ⟨k + 1, n + 1, H % 1, 0, by omega, by omega, Nat.mod_lt _ (by decide), by omega, by go_num, by simp, by go_num, (by show _ = _; omega), ⟨_, e, by rw [List.length_append, HLN.out]; rfl, ?_⟩, append_step (w := wr.drewN nq) (below_drewN hbel.out nq) hbel.out.size HOW.out hgrow⟩
          have e2 : Lib.byteCells (l ++ [UInt8.ofNat (H / 1)]) = Lib.byteCells l ++ [.int .u8 ((H : Int))] := by
            rw [Lib.byteCells_append]
            congr 1
            simp only [Lib.byteCells, List.map_cons, List.map_nil]
            rw [UInt8.toNat_ofNat_of_lt' (by show _ < 256; omega)]
            simp
          rw [e2]
          exact hown'
        case measure => simp [intOf]; omega
      · have hq : h < 16 := hh
        have hor := vcase5_4 h V hq hvb
        have hH : h * 32 + V < 512 := by omega
        obtain ⟨H, hHe⟩ : ∃ H, H = h * 32 + V := ⟨_, rfl⟩
        rw [← hHe] at hor hH
        have HHe := Lib.hid hHe
        have hw : IntKind.i64.wrap ((h : Int) * 32) = (h : Int) * 32 := by rw [IntKind.wrap_i64]; omega
        clear hHe hh hq
        have hix := HIX.out
        go_wp2
        go_quiet ((go_at_call 15; exact quiet_left' ((index_any a _ _ HA.out).mono fun e w' ⟨he, hw⟩ => ⟨by rw [he, HIX.out], hw⟩)))
        have hms := vmask5_4 H hH
        have hsh : H / 2 < 256 := by omega
        go_wp2_with (first
          | (at_builtin
             refine wpList_append_own_wide _ rfl _ _ 22 rfl w.heap.size 5 i0 (.int .u8 0) 1 1 Try.underlying22 hi hz0 hz1' hz2' rfl (by decide) _ _ _ rfl (show ((wr.alloc _).drewN nq).ownsRow _ _ _ _ _ _ from HOW.out.alloc _) ⟨wr.heap.size, 0, none⟩ 1 1 [.int .u8 ((H : Int) / 2)] rfl rfl (cell_one_new _ _ _) (by intro u hu; simp at hu; subst hu; rfl) (by unfold maxLen; omega) (by omega) (by have := hbel.out.size; simp; omega) ?_
             intro v' w1 hown' hgrow _)
          | fail)
        go_roundw
        case rel =>
          have e : vals 5 ((s.data.toList.take (k + 1)).map (numL a.data.toList)) = (l ++ [UInt8.ofNat (H / 2)], H % 2, 1) := by
            rw [HSN.out, List.map_append, List.map_cons, List.map_nil, vals_snoc, HVS.out, ← HVV.out, v5_4, HHe.out]
          refine ⟨k + 1, n + 1, H % 2, 1, by omega, by omega, Nat.mod_lt _ (by decide), by omega, by go_num, rfl, by go_num, (by show _ = _; omega), ⟨_, e, by rw [List.length_append, HLN.out]; rfl, ?_⟩, append_step (w := wr.drewN nq) (below_drewN hbel.out nq) hbel.out.size HOW.out hgrow⟩
          have e2 : Lib.byteCells (l ++ [UInt8.ofNat (H / 2)]) = Lib.byteCells l ++ [.int .u8 ((H : Int) / 2)] := by
            rw [Lib.byteCells_append]
            congr 1
            simp only [Lib.byteCells, List.map_cons, List.map_nil]
            rw [UInt8.toNat_ofNat_of_lt' (by show _ < 256; omega)]
            simp
          rw [e2]
          exact hown'
        case measure => simp [intOf]; omega
      · have hq : h < 32 := hh
        have hor := vcase5_5 h V hq hvb
        have hH : h * 32 + V < 1024 := by omega
        obtain ⟨H, hHe⟩ : ∃ H, H = h * 32 + V := ⟨_, rfl⟩
        rw [← hHe] at hor hH
        have HHe := Lib.hid hHe
        have hw : IntKind.i64.wrap ((h : Int) * 32) = (h : Int) * 32 := by rw [IntKind.wrap_i64]; omega
        clear hHe hh hq
        have hix := HIX.out
        go_wp2
        go_quiet ((go_at_call 15; exact quiet_left' ((index_any a _ _ HA.out).mono fun e w' ⟨he, hw⟩ => ⟨by rw [he, HIX.out], hw⟩)))
        have hms := vmask5_5 H hH
        have hsh : H / 4 < 256 := by omega
        go_wp2_with (first
          | (at_builtin
             refine wpList_append_own_wide _ rfl _ _ 22 rfl w.heap.size 5 i0 (.int .u8 0) 1 1 Try.underlying22 hi hz0 hz1' hz2' rfl (by decide) _ _ _ rfl (show ((wr.alloc _).drewN nq).ownsRow _ _ _ _ _ _ from HOW.out.alloc _) ⟨wr.heap.size, 0, none⟩ 1 1 [.int .u8 ((H : Int) / 4)] rfl rfl (cell_one_new _ _ _) (by intro u hu; simp at hu; subst hu; rfl) (by unfold maxLen; omega) (by omega) (by have := hbel.out.size; simp; omega) ?_
             intro v' w1 hown' hgrow _)
          | fail)
        go_roundw
        case rel =>
          have e : vals 5 ((s.data.toList.take (k + 1)).map (numL a.data.toList)) = (l ++ [UInt8.ofNat (H / 4)], H % 4, 2) := by
            rw [HSN.out, List.map_append, List.map_cons, List.map_nil, vals_snoc, HVS.out, ← HVV.out, v5_5, HHe.out]
          refine ⟨k + 1, n + 1, H % 4, 2, by omega, by omega, Nat.mod_lt _ (by decide), by omega, by go_num, rfl, by go_num, (by show _ = _; omega), ⟨_, e, by rw [List.length_append, HLN.out]; rfl, ?_⟩, append_step (w := wr.drewN nq) (below_drewN hbel.out nq) hbel.out.size HOW.out hgrow⟩
          have e2 : Lib.byteCells (l ++ [UInt8.ofNat (H / 4)]) = Lib.byteCells l ++ [.int .u8 ((H : Int) / 4)] := by
            rw [Lib.byteCells_append]
            congr 1
            simp only [Lib.byteCells, List.map_cons, List.map_nil]
            rw [UInt8.toNat_ofNat_of_lt' (by show _ < 256; omega)]
            simp
          rw [e2]
          exact hown'
        case measure => simp [intOf]; omega
      · have hq : h < 64 := hh
        have hor := vcase5_6 h V hq hvb
        have hH : h * 32 + V < 2048 := by omega
        obtain ⟨H, hHe⟩ : ∃ H, H = h * 32 + V := ⟨_, rfl⟩
        rw [← hHe] at hor hH
        have HHe := Lib.hid hHe
        have hw : IntKind.i64.wrap ((h : Int) * 32) = (h : Int) * 32 := by rw [IntKind.wrap_i64]; omega
        clear hHe hh hq
        have hix := HIX.out
        go_wp2
        go_quiet ((go_at_call 15; exact quiet_left' ((index_any a _ _ HA.out).mono fun e w' ⟨he, hw⟩ => ⟨by rw [he, HIX.out], hw⟩)))
        have hms := vmask5_6 H hH
        have hsh : H / 8 < 256 := by omega
        go_wp2_with (first
          | (at_builtin
             refine wpList_append_own_wide _ rfl _ _ 22 rfl w.heap.size 5 i0 (.int .u8 0) 1 1 Try.underlying22 hi hz0 hz1' hz2' rfl (by decide) _ _ _ rfl (show ((wr.alloc _).drewN nq).ownsRow _ _ _ _ _ _ from HOW.out.alloc _) ⟨wr.heap.size, 0, none⟩ 1 1 [.int .u8 ((H : Int) / 8)] rfl rfl (cell_one_new _ _ _) (by intro u hu; simp at hu; subst hu; rfl) (by unfold maxLen; omega) (by omega) (by have := hbel.out.size; simp; omega) ?_
             intro v' w1 hown' hgrow _)
          | fail)
        go_roundw
        case rel =>
          have e : vals 5 ((s.data.toList.take (k + 1)).map (numL a.data.toList)) = (l ++ [UInt8.ofNat (H / 8)], H % 8, 3) := by
            rw [HSN.out, List.map_append, List.map_cons, List.map_nil, vals_snoc, HVS.out, ← HVV.out, v5_6, HHe.out]
          refine ⟨k + 1, n + 1, H % 8, 3, by omega, by omega, Nat.mod_lt _ (by decide), by omega, by go_num, rfl, by go_num, (by show _ = _; omega), ⟨_, e, by rw [List.length_append, HLN.out]; rfl, ?_⟩, append_step (w := wr.drewN nq) (below_drewN hbel.out nq) hbel.out.size HOW.out hgrow⟩
          have e2 : Lib.byteCells (l ++ [UInt8.ofNat (H / 8)]) = Lib.byteCells l ++ [.int .u8 ((H : Int) / 8)] := by
            rw [Lib.byteCells_append]
            congr 1
            simp only [Lib.byteCells, List.map_cons, List.map_nil]
            rw [UInt8.toNat_ofNat_of_lt' (by show _ < 256; omega)]
            simp
          rw [e2]
          exact hown'
        case measure => simp [intOf]; omega
      · have hq : h < 128 := hh
        have hor := vcase5_7 h V hq hvb
        have hH : h * 32 + V < 4096 := by omega
        obtain ⟨H, hHe⟩ : ∃ H, H = h * 32 + V := ⟨_, rfl⟩
        rw [← hHe] at hor hH
        have HHe := Lib.hid hHe
        have hw : IntKind.i64.wrap ((h : Int) * 32) = (h : Int) * 32 := by rw [IntKind.wrap_i64]; omega
        clear hHe hh hq
        have hix := HIX.out
        go_wp2
        go_quiet ((go_at_call 15; exact quiet_left' ((index_any a _ _ HA.out).mono fun e w' ⟨he, hw⟩ => ⟨by rw [he, HIX.out], hw⟩)))
        have hms := vmask5_7 H hH
        have hsh : H / 16 < 256 := by omega
        go_wp2_with (first
          | (at_builtin
             refine wpList_append_own_wide _ rfl _ _ 22 rfl w.heap.size 5 i0 (.int .u8 0) 1 1 Try.underlying22 hi hz0 hz1' hz2' rfl (by decide) _ _ _ rfl (show ((wr.alloc _).drewN nq).ownsRow _ _ _ _ _ _ from HOW.out.alloc _) ⟨wr.heap.size, 0, none⟩ 1 1 [.int .u8 ((H : Int) / 16)] rfl rfl (cell_one_new _ _ _) (by intro u hu; simp at hu; subst hu; rfl) (by unfold maxLen; omega) (by omega) (by have := hbel.out.size; simp; omega) ?_
             intro v' w1 hown' hgrow _)
          | fail)
        go_roundw
        case rel =>
          have e : vals 5 ((s.data.toList.take (k + 1)).map (numL a.data.toList)) = (l ++ [UInt8.ofNat (H / 16)], H % 16, 4) := by
            rw [HSN.out, List.map_append, List.map_cons, List.map_nil, vals_snoc, HVS.out, ← HVV.out, v5_7, HHe.out]
          refine ⟨k + 1, n + 1, H % 16, 4, by omega, by omega, Nat.mod_lt _ (by decide), by omega, by go_num, rfl, by go_num, (by show _ = _; omega), ⟨_, e, by rw [List.length_append, HLN.out]; rfl, ?_⟩, append_step (w := wr.drewN nq) (below_drewN hbel.out nq) hbel.out.size HOW.out hgrow⟩
          have e2 : Lib.byteCells (l ++ [UInt8.ofNat (H / 16)]) = Lib.byteCells l ++ [.int .u8 ((H : Int) / 16)] := by
            rw [Lib.byteCells_append]
            congr 1
            simp only [Lib.byteCells, List.map_cons, List.map_nil]
            rw [UInt8.toNat_ofNat_of_lt' (by show _ < 256; omega)]
            simp
          rw [e2]
          exact hown'
        case measure => simp [intOf]; omega
    · have hby := owns_bys HOW.out
      have hfin := HVS.out
      rw [List.take_of_length_le (by rw [HLs.out]; omega)] at hfin
      have h1 := HFI.out.1
      have h2 := HFI.out.2
      rw [hfin] at h1 h2
      simp only at h1 h2
      have HBY := Lib.hid hby
      have H1 := Lib.hid h1
      have H2 := Lib.hid h2
      clear hby hfin h1 h2
      go_wp2
      go_ret2
      exact ⟨_, by rw [← H2.out]; rfl, by rw [← H1.out]; exact HBY.out, hbel.out⟩

end Go.Proofs.Ytejkphobeclefaa
