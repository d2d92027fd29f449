/-
  Contracts of the reference's functions Same, Letters, bit: what each returns. Conditions: slices that read as bytes; lengths fit an int.
-/
import Derived.Test.YtkiipbpcaakkoaaSpecB
import Derived.Test.YtkiipbpcaakkoaaLaws2
import Derived.Test.YtkiipbpcaakkoaaText
namespace Go.Proofs.Ytkiipbpcaakkoaa
open Go.RowKit

set_option maxHeartbeats 1000000 in
theorem same_any (v1 v2 : Value) (l1 l2 : List UInt8) (w : World) (h1 : Bys w v1 l1) (h2 : Bys w v2 l2) :
    Calls Try.prog 13 #[v1, v2] w fun e w' => e = .returned (.bool (l1 == l2)) ∧ ∃ q, w' = w.drewN q := by
  obtain ⟨A1, c1, rfl, hc1, hm1, hr1⟩ := h1
  obtain ⟨A2, c2, rfl, hc2, hm2, hr2⟩ := h2
  unfold maxLen at hm1 hm2
  have HR1 := Lib.hid hr1
  have HR2 := Lib.hid hr2
  clear hr1 hr2
  by_cases hne : l1.length = l2.length
  · have HNE := Lib.hid hne
    rw [← hne]
    rw [← hne] at hc2
    obtain ⟨n, hn⟩ : ∃ n, n = l1.length := ⟨_, rfl⟩
    rw [← hn]
    rw [← hn] at hc1 hc2
    have HN := Lib.hid hn
    clear hn hne
    go_enter Try.func13, Try.ntmps13
    go_wp2
    go_loopw [5] (fun i wr => ∃ k q : Nat, k ≤ n ∧ i = .int .i64 k ∧ wr = w.drewN q ∧ Hid (∀ j, j < k → l1[j]? = l2[j]?)) (fun i _ => n - (intOf i).toNat)
    case atStart => exact ⟨0, 0, Nat.zero_le _, rfl, rfl, fun j h => absurd h (Nat.not_lt_zero _)⟩
    case round =>
      obtain ⟨k, q, hk, rfl, rfl, hsame⟩ := hrel
      by_cases hlt : k < n
      · have hl1 : k < l1.length := by have := HN.out; omega
        have hl2 : k < l2.length := by have := HN.out; have := HNE.out; omega
        obtain ⟨b1, o1, rfl, _, hcell1⟩ := HR1.out (by omega)
        obtain ⟨b2, o2, rfl, _, hcell2⟩ := HR2.out (by omega)
        obtain ⟨x1, hx1⟩ : ∃ x, l1[k]? = some x := ⟨_, List.getElem?_eq_getElem hl1⟩
        obtain ⟨x2, hx2⟩ : ∃ x, l2[k]? = some x := ⟨_, List.getElem?_eq_getElem hl2⟩
        have d1 := hcell1 k x1 hx1
        have d2 := hcell2 k x2 hx2
        have HX1 := Lib.hid hx1
        have HX2 := Lib.hid hx2
        clear hcell1 hcell2 hx1 hx2 hl1 hl2
        have i1 : (0 : Int) ≤ (k : Int) := by omega
        have i2 : (k : Int) < (n : Int) := by omega
        by_cases he : x1 = x2
        · subst he
          go_wp2
          go_quiet (fail)
          go_wp2
          go_roundw
          case rel =>
            refine ⟨k + 1, _, by omega, by go_num, rfl, fun j hj => ?_⟩
            by_cases e : j = k
            · subst e; rw [HX1.out, HX2.out]
            · exact hsame.out j (by omega)
          case measure => simp [intOf]; omega
        · have hb : ((x1.toNat : Int) != (x2.toNat : Int)) = true := by
            rw [bne_iff_ne]; intro h; exact he (UInt8.toNat_inj.1 (by exact_mod_cast h))
          have HF : Hid ((l1 == l2) = false) := by
            show _ = _
            rw [beq_eq_false_iff_ne]
            rintro rfl
            have := HX1.out.symm.trans HX2.out
            exact he (by simpa using this)
          clear he
          go_wp2
          go_quiet (fail)
          go_wp2
          go_ret
          exact ⟨ret_bool HF.out.symm, _, World.drewN_drewN _ _ _⟩
      · obtain rfl : k = n := by omega
        have HF : Hid ((l1 == l2) = true) := by
          show _ = _
          rw [beq_iff_eq]
          apply List.ext_getElem?
          intro i
          by_cases hi : i < k
          · exact hsame.out i hi
          · rw [List.getElem?_eq_none (by have := HN.out; omega), List.getElem?_eq_none (by have := HN.out; have := HNE.out; omega)]
        go_wp2
        go_ret
        exact ⟨ret_bool HF.out.symm, _, rfl⟩
  · have hb : ((l1.length : Int) != (l2.length : Int)) = true := by rw [bne_iff_ne]; intro h; exact hne (by exact_mod_cast h)
    have HF : Hid ((l1 == l2) = false) := by
      show _ = _
      rw [beq_eq_false_iff_ne]
      rintro rfl
      exact hne rfl
    clear hne
    go_enter Try.func13, Try.ntmps13
    go_wp2
    go_ret
    exact ⟨ret_bool HF.out.symm, 0, rfl⟩

/-- How many bytes at the beginning are in an alphabet. -/
def lettersIn (a : List UInt8) (t : List UInt8) : Nat := (t.takeWhile fun c => decide (0 ≤ idx a (c.toNat : Int))).length

theorem lettersIn_stop (a t : List UInt8) (k : Nat) (hk : k ≤ t.length) (hy : ∀ j, (hj : j < t.length) → j < k → 0 ≤ idx a ((t[j]'hj).toNat : Int)) (hn : ∀ h : k < t.length, ¬ 0 ≤ idx a ((t[k]'h).toNat : Int)) : lettersIn a t = k := by
  unfold lettersIn
  induction t generalizing k with
  | nil => simp at hk; simp [hk]
  | cons c r ih =>
    cases k with
    | zero =>
      have := hn (by simp)
      simp only [List.getElem_cons_zero] at this
      rw [List.takeWhile_cons_of_neg (by simpa using this)]
      rfl
    | succ k =>
      have h0 := hy 0 (by simp) (by omega)
      simp only [List.getElem_cons_zero] at h0
      rw [List.takeWhile_cons_of_pos (by simpa using h0), List.length_cons, ih k (by simpa using hk) (fun j hj hjk => by
        have := hy (j + 1) (by simp; omega) (by omega)
        simpa using this) (fun h => by
        have := hn (by simp; omega)
        simpa using this)]

theorem and1_i64 (v : Int) (h0 : 0 ≤ v) (h1 : v < 65536) : bits .and .i64 v 1 = v % 2 := by
  obtain ⟨n, rfl⟩ := Int.eq_ofNat_of_zero_le h0
  have e1 : (BitVec.ofInt 64 (n : Int)).toNat = n := by rw [BitVec.ofInt_natCast, BitVec.toNat_ofNat]; exact Nat.mod_eq_of_lt (by omega)
  have e2 : (BitVec.ofInt 64 (1 : Int)).toNat = 1 := rfl
  show IntKind.i64.wrap ((BitVec.ofInt 64 (n : Int) &&& BitVec.ofInt 64 (1 : Int)).toNat : Int) = _
  rw [BitVec.toNat_and, e1, e2, Nat.and_one_is_mod, IntKind.wrap_i64]
  omega

theorem bit_val (x s : Nat) (hx : x < 2 ^ 8) : bits BinOp.and IntKind.i64 (wrap64 ((x : Int) / 2 ^ s)) 1 = ((x / 2 ^ s % 2 : Nat) : Int) := by
  have e : ((x : Int) / 2 ^ s) = ((x / 2 ^ s : Nat) : Int) := by simp
  have hq : x / 2 ^ s ≤ x := Nat.div_le_self _ _
  rw [e]
  generalize x / 2 ^ s = q at *
  have hw : wrap64 (q : Int) = (q : Int) := by unfold wrap64; omega
  rw [hw, and1_i64 _ (by omega) (by omega)]
  omega

set_option maxHeartbeats 1000000 in
theorem bit_any (v : Value) (l : List UInt8) (k : Nat) (w : World) (h : Bys w v l) (hk : k ≤ 1152921504606846976) :
    Calls Try.prog 19 #[v, .int .i64 (k : Int)] w fun e w' => e = .returned (.int .i64 ((bitAt l k : Nat) : Int)) ∧ w = w' := by
  obtain ⟨A, c, rfl, hc, hm, hr⟩ := h
  unfold maxLen at hm
  have HR := Lib.hid hr
  clear hr
  by_cases hlt : k / 8 < l.length
  · obtain ⟨b, off, rfl, _, hcell⟩ := HR.out (by omega)
    obtain ⟨x, hx⟩ : ∃ x, l[k / 8]? = some x := ⟨_, List.getElem?_eq_getElem hlt⟩
    have d := hcell (k / 8) x hx
    have hxl := x.toNat_lt
    have hbit : bitAt l k = x.toNat / 2 ^ (7 - k % 8) % 2 := by unfold bitAt; rw [List.getD_eq_getElem?_getD, hx]; rfl
    clear hcell hx
    have HBit := Lib.hid hbit
    clear hbit
    go_enter Try.func19, Try.ntmps19
    go_wp2
    go_ret
    refine ⟨ret_int ?_, rfl⟩
    rw [HBit.out]
    exact bit_val x.toNat (7 - k % 8) hxl
  · have hbit : bitAt l k = 0 := by
      unfold bitAt
      rw [List.getD_eq_getElem?_getD, List.getElem?_eq_none (by omega)]
      show (0 : UInt8).toNat / _ % 2 = 0
      rw [show (0 : UInt8).toNat = 0 from rfl, Nat.zero_div]
    rw [hbit]
    clear hbit
    go_enter Try.func19, Try.ntmps19
    go_wp2
    go_ret
    exact ⟨rfl, rfl⟩

end Go.Proofs.Ytkiipbpcaakkoaa
