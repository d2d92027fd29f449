/-
  The contract of the reference's function Number: the decimal numeral. Conditions: none beyond an int64.
-/
import Derived.Test.YtejkphobeclefaaDoorProg
import Derived.Test.YtejkphobeclefaaDoorItoa
import Derived.Test.YtejkphobeclefaaDoorLaws2
import Derived.Lib.ItoaLen
namespace Go.Proofs.YtejkphobeclefaaDoor
open Go.RowKit
set_option linter.unusedVariables false

theorem strA (x y : List UInt8) : (⟨x.toArray⟩ : ByteArray) ++ ⟨y.toArray⟩ = ⟨(x ++ y).toArray⟩ := by
  apply ByteArray.ext
  simp [ByteArray.data_append]

theorem bys_digit (w : World) (E : TypeId) (d : Nat) (hd : d < 256) : Bys (w.alloc (.cells #[.int .u8 (d : Int)] E)) (.slice (some ⟨w.heap.size, 0, none⟩) 1 1) [UInt8.ofNat d] := by
  have h : Blk (w.alloc (.cells #[.int .u8 (d : Int)] E)) w.heap.size E [.int .u8 (d : Int)] := Blk.new w E [.int .u8 (d : Int)]
  refine Bys.of_blk h 0 1 [UInt8.ofNat d] (Nat.le_refl _) (by unfold maxLen; omega) (fun j x hj => ?_)
  cases j with
  | zero =>
    simp only [List.getElem?_cons_zero, Option.some.injEq] at hj
    rw [← hj, UInt8.toNat_ofNat_of_lt' (by show _ < 256; omega)]
    rfl
  | succ j => simp at hj

theorem ret_strP (d : UInt8) (x : List UInt8) : Ending.returned (.string ((⟨[d].toArray⟩ : ByteArray) ++ ⟨x.toArray⟩)) = .returned (.string ⟨(d :: x).toArray⟩) := by rw [strA]; rfl
theorem ret_strN (d : UInt8) (x : List UInt8) : Ending.returned (.string ((⟨#[45]⟩ : ByteArray) ++ ((⟨[d].toArray⟩ : ByteArray) ++ ⟨x.toArray⟩))) = .returned (.string ⟨(45 :: d :: x).toArray⟩) := by
  have e : (⟨#[45]⟩ : ByteArray) ++ ((⟨[d].toArray⟩ : ByteArray) ++ ⟨x.toArray⟩) = ⟨(45 :: d :: x).toArray⟩ := by
    apply ByteArray.ext
    simp [ByteArray.data_append]
  rw [e]

/-- What the loop of Number keeps. -/
def NRel (U : Nat) (w : World) (s3 s4 : Value) (wr : World) : Prop :=
  ∃ (u : Nat) (x : List UInt8) (o : ByteArray), u ≤ U ∧ o.size ≤ 40 ∧ s4 = .int .u64 (u : Int) ∧ s3 = .string o ∧ Hid (o = ⟨x.toArray⟩) ∧ Hid (Lib.decDigits U = Lib.decDigits u ++ x) ∧ Hid (Below w.heap.size w wr)

set_option maxHeartbeats 400000 in
theorem number_any (n : Int) (w : World) (h0 : -9223372036854775808 ≤ n) (h1 : n ≤ 9223372036854775807) :
    Calls Tryd.prog 10 #[.int .i64 n] w fun e w' => e = .returned (.string ⟨(Lib.itoa n).toArray⟩) ∧ Below w.heap.size w w' := by
  have hlen := Lib.itoa_length_le n h0 h1
  obtain ⟨U, hU⟩ : ∃ U : Nat, U = n.natAbs := ⟨_, rfl⟩
  have hUl : (Lib.decDigits U).length ≤ 21 := by
    unfold Lib.itoa at hlen
    split at hlen
    · simp only [List.length_cons] at hlen; rw [hU]; omega
    · rw [show n.toNat = U by omega] at hlen; exact hlen
  have HUL := Lib.hid hUl
  have hUb : U ≤ 9223372036854775808 := by omega
  clear hlen hUl
  by_cases hn : n < 0
  · have HIT : Hid (Lib.itoa n = 45 :: Lib.decDigits U) := by show _ = _; unfold Lib.itoa; rw [if_pos hn, hU]
    have hUn : n = -(U : Int) := by omega
    clear hU
    subst hUn
    have hU1 : 0 < U := by omega
    have hUd : decide (0 < U) = true := by simpa using hU1
    have hwr : IntKind.u64.wrap (-IntKind.u64.wrap (-(U : Int))) = (U : Int) := by
      have e : ∀ x : Int, IntKind.u64.wrap x = x % 18446744073709551616 := fun x => rfl
      rw [e, e]
      omega
    have HWR : Hid ((U : Int) = (U : Int)) := rfl
    go_enter Tryd.func10, Tryd.ntmps10
    go_wp2_with fail
    go_loopw [3, 4] (fun s3 s4 wr => NRel U w s3 s4 wr) (fun _ s4 _ => (intOf s4).toNat)
    case atStart => exact ⟨U, [], ⟨#[]⟩, Nat.le_refl _, Nat.zero_le _, rfl, rfl, rfl, (by show _ = _; rw [List.append_nil]), Below.refl _ _⟩
    case round =>
      obtain ⟨u, x, o, hu, ho, rfl, rfl, HOX, HDD, HB⟩ := hrel
      by_cases h9 : 9 < u
      · have h9d : decide ((9 : Int) < (u : Int)) = true := by rw [decide_eq_true_iff]; omega
        have hcv := run_to_string (P := Tryd.prog) (w := wr.alloc (.cells #[.int .u8 ((48 + u % 10 : Nat) : Int)] 5)) 29 5 9 Tryd.underlying29 Tryd.underlying5 Tryd.underlying9 _ _ (bys_digit wr 5 (48 + u % 10) (by omega))
        obtain ⟨db, hdb⟩ : ∃ db : ByteArray, db = ⟨[UInt8.ofNat (48 + u % 10)].toArray⟩ := ⟨_, rfl⟩
        rw [← hdb] at hcv
        have hds : db.size ≤ 1 := by rw [hdb]; exact Nat.le_refl _
        have HDB := Lib.hid hdb
        have HDN : Hid (Lib.decDigits U = Lib.decDigits (u / 10) ++ (UInt8.ofNat (48 + u % 10) :: x)) := by
          show _ = _
          rw [HDD.out, Lib.decDigits, dif_neg (by omega), List.append_assoc]
          rfl
        have HSZ : Hid ((db ++ o).size ≤ 40) := by
          show _ ≤ _
          have h5 := congrArg List.length HDN.out
          have h6 := HUL.out
          rw [HDB.out, HOX.out, strA]
          simp only [List.length_append, List.length_cons] at h5
          have e : (⟨([UInt8.ofNat (48 + u % 10)] ++ x).toArray⟩ : ByteArray).size = x.length + 1 := by simp [ByteArray.size]
          rw [e]
          omega
        have HB1 : Hid (Below w.heap.size w (wr.alloc (.cells #[.int .u8 ((48 + u % 10 : Nat) : Int)] 5))) := HB.out.alloc HB.out.size _
        have hc1 : ((48 + u % 10 : Nat) : Int) = 48 + (u : Int) % 10 := by omega
        rw [hc1] at hcv HB1
        clear hdb hc1
        go_wp2
        go_roundw
        case rel => exact ⟨u / 10, UInt8.ofNat (48 + u % 10) :: x, db ++ o, by omega, HSZ.out, by go_num, rfl, (by show _ = _; rw [HDB.out, HOX.out, strA]; rfl), HDN, HB1⟩
        case measure => simp [intOf]; omega
      · have h9d : decide ((9 : Int) < (u : Int)) = false := by rw [decide_eq_false_iff_not]; omega
        have hcv := run_to_string (P := Tryd.prog) (w := wr.alloc (.cells #[.int .u8 ((48 + u : Nat) : Int)] 5)) 29 5 9 Tryd.underlying29 Tryd.underlying5 Tryd.underlying9 _ _ (bys_digit wr 5 (48 + u) (by omega))
        obtain ⟨db, hdb⟩ : ∃ db : ByteArray, db = ⟨[UInt8.ofNat (48 + u)].toArray⟩ := ⟨_, rfl⟩
        rw [← hdb] at hcv
        have hds : db.size ≤ 1 := by rw [hdb]; exact Nat.le_refl _
        have HDB := Lib.hid hdb
        have HDN : Hid (Lib.decDigits U = UInt8.ofNat (48 + u) :: x) := by
          show _ = _
          rw [HDD.out, Lib.decDigits_one (by omega)]
          rfl
        have HB1 : Hid (Below w.heap.size w (wr.alloc (.cells #[.int .u8 ((48 + u : Nat) : Int)] 5))) := HB.out.alloc HB.out.size _
        have hc1 : ((48 + u : Nat) : Int) = 48 + (u : Int) := by omega
        rw [hc1] at hcv HB1
        have hos : o.size ≤ 40 := ho
        have hdo : (db ++ o).size ≤ 41 := by rw [ByteArray.size_append]; omega
        clear hdb hc1
        go_wp2
        go_ret
        refine ⟨?_, HB1.out⟩
        rw [HIT.out, HDN.out, HDB.out, HOX.out]
        exact ret_strN _ _
  · have HIT : Hid (Lib.itoa n = Lib.decDigits U) := by show _ = _; unfold Lib.itoa; rw [if_neg hn, hU]; congr 1; omega
    have hUn : n = (U : Int) := by omega
    clear hU
    subst hUn
    have HWR : Hid ((U : Int) = (U : Int)) := rfl
    go_enter Tryd.func10, Tryd.ntmps10
    go_wp2_with fail
    go_loopw [3, 4] (fun s3 s4 wr => NRel U w s3 s4 wr) (fun _ s4 _ => (intOf s4).toNat)
    case atStart => exact ⟨U, [], ⟨#[]⟩, Nat.le_refl _, Nat.zero_le _, rfl, rfl, rfl, (by show _ = _; rw [List.append_nil]), Below.refl _ _⟩
    case round =>
      obtain ⟨u, x, o, hu, ho, rfl, rfl, HOX, HDD, HB⟩ := hrel
      by_cases h9 : 9 < u
      · have h9d : decide ((9 : Int) < (u : Int)) = true := by rw [decide_eq_true_iff]; omega
        have hcv := run_to_string (P := Tryd.prog) (w := wr.alloc (.cells #[.int .u8 ((48 + u % 10 : Nat) : Int)] 5)) 29 5 9 Tryd.underlying29 Tryd.underlying5 Tryd.underlying9 _ _ (bys_digit wr 5 (48 + u % 10) (by omega))
        obtain ⟨db, hdb⟩ : ∃ db : ByteArray, db = ⟨[UInt8.ofNat (48 + u % 10)].toArray⟩ := ⟨_, rfl⟩
        rw [← hdb] at hcv
        have hds : db.size ≤ 1 := by rw [hdb]; exact Nat.le_refl _
        have HDB := Lib.hid hdb
        have HDN : Hid (Lib.decDigits U = Lib.decDigits (u / 10) ++ (UInt8.ofNat (48 + u % 10) :: x)) := by
          show _ = _
          rw [HDD.out, Lib.decDigits, dif_neg (by omega), List.append_assoc]
          rfl
        have HSZ : Hid ((db ++ o).size ≤ 40) := by
          show _ ≤ _
          have h5 := congrArg List.length HDN.out
          have h6 := HUL.out
          rw [HDB.out, HOX.out, strA]
          simp only [List.length_append, List.length_cons] at h5
          have e : (⟨([UInt8.ofNat (48 + u % 10)] ++ x).toArray⟩ : ByteArray).size = x.length + 1 := by simp [ByteArray.size]
          rw [e]
          omega
        have HB1 : Hid (Below w.heap.size w (wr.alloc (.cells #[.int .u8 ((48 + u % 10 : Nat) : Int)] 5))) := HB.out.alloc HB.out.size _
        have hc1 : ((48 + u % 10 : Nat) : Int) = 48 + (u : Int) % 10 := by omega
        rw [hc1] at hcv HB1
        clear hdb hc1
        go_wp2
        go_roundw
        case rel => exact ⟨u / 10, UInt8.ofNat (48 + u % 10) :: x, db ++ o, by omega, HSZ.out, by go_num, rfl, (by show _ = _; rw [HDB.out, HOX.out, strA]; rfl), HDN, HB1⟩
        case measure => simp [intOf]; omega
      · have h9d : decide ((9 : Int) < (u : Int)) = false := by rw [decide_eq_false_iff_not]; omega
        have hcv := run_to_string (P := Tryd.prog) (w := wr.alloc (.cells #[.int .u8 ((48 + u : Nat) : Int)] 5)) 29 5 9 Tryd.underlying29 Tryd.underlying5 Tryd.underlying9 _ _ (bys_digit wr 5 (48 + u) (by omega))
        obtain ⟨db, hdb⟩ : ∃ db : ByteArray, db = ⟨[UInt8.ofNat (48 + u)].toArray⟩ := ⟨_, rfl⟩
        rw [← hdb] at hcv
        have hds : db.size ≤ 1 := by rw [hdb]; exact Nat.le_refl _
        have HDB := Lib.hid hdb
        have HDN : Hid (Lib.decDigits U = UInt8.ofNat (48 + u) :: x) := by
          show _ = _
          rw [HDD.out, Lib.decDigits_one (by omega)]
          rfl
        have HB1 : Hid (Below w.heap.size w (wr.alloc (.cells #[.int .u8 ((48 + u : Nat) : Int)] 5))) := HB.out.alloc HB.out.size _
        have hc1 : ((48 + u : Nat) : Int) = 48 + (u : Int) := by omega
        rw [hc1] at hcv HB1
        have hos : o.size ≤ 40 := ho
        have hdo : (db ++ o).size ≤ 41 := by rw [ByteArray.size_append]; omega
        clear hdb hc1
        go_wp2
        go_ret
        refine ⟨?_, HB1.out⟩
        rw [HIT.out, HDN.out, HDB.out, HOX.out]
        exact ret_strP _ _

end Go.Proofs.YtejkphobeclefaaDoor
