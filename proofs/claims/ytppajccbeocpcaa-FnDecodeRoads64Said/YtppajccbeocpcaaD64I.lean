/-
  The contract of the thin package's DecodeInto64: the bytes lie at the beginning of a copy of dst, and nothing farther than two bytes behind them has turned. Conditions: the alphabet and the padding are valid; dst has room for the bytes.
-/
import Derived.Test.YtppajccbeocpcaaD64S
import Derived.Test.YtppajccbeocpcaaApp
namespace Go.Proofs.Ytppajccbeocpcaa
open Go.RowKit
set_option linter.unusedVariables false

/-- What DecodeInto64 leaves: a copy d' of dst with the bytes at its beginning. -/
def IntoPost (R : List UInt8 × Option Int) (d : List UInt8) (w : World) (e : Ending) (w' : World) : Prop :=
  ∃ g c d', e = .returned (.tuple #[.slice (some ⟨g, 0, none⟩) d.length c, .int .i64 (R.1.length : Int), .bool (okOf R.2), .int .i64 (numOf R.2)]) ∧ Bys w' (.slice (some ⟨g, 0, none⟩) d.length c) d' ∧ d'.length = d.length ∧ d'.take R.1.length = R.1 ∧ d'.drop (R.1.length + 2) = d.drop (R.1.length + 2) ∧ Below w.heap.size w w'

theorem cells_bytes (cs : List Value) (n : Nat) (h : ∀ j, j < n → ∃ x : UInt8, cs[j]? = some (Value.int .u8 (x.toNat : Int))) : ∃ l : List UInt8, l.length = n ∧ ∀ (j : Nat) (x : UInt8), l[j]? = some x → cs[j]? = some (Value.int .u8 (x.toNat : Int)) := by
  induction n with
  | zero => exact ⟨[], rfl, fun j x hj => by simp at hj⟩
  | succ n ih =>
    obtain ⟨l, hl, hc⟩ := ih (fun j hj => h j (by omega))
    obtain ⟨x, hx⟩ := h n (by omega)
    refine ⟨l ++ [x], by simp [hl], fun j y hj => ?_⟩
    rcases Nat.lt_or_ge j l.length with hlt | hge
    · rw [List.getElem?_append_left hlt] at hj
      exact hc j y hj
    · rw [List.getElem?_append_right hge] at hj
      have : j - l.length = 0 := by
        rcases Nat.eq_zero_or_pos (j - l.length) with h0 | h0
        · exact h0
        · rw [List.getElem?_eq_none (by simp; omega)] at hj; cases hj
      rw [this] at hj
      simp only [List.getElem?_cons_zero, Option.some.injEq] at hj
      rw [← hj, show j = n by omega]
      exact hx

/-- What lies in a copy of dst behind the decoder, as bytes. -/
theorem wrote_bytes {g : Nat} {t : TypeId} {cur : List Value} {w wr : World} {ds d : List UInt8} (htk : cur.take d.length = Lib.byteCells d) (h : Wrote g 0 t cur w ds wr) (hds : ds.length ≤ d.length) :
    ∃ (cur' : List Value) (d' : List UInt8), Blk wr g t cur' ∧ d'.length = d.length ∧ (∀ (j : Nat) (x : UInt8), d'[j]? = some x → cur'[j]? = some (Value.int .u8 (x.toNat : Int))) ∧ d'.take ds.length = ds ∧ d'.drop (ds.length + 2) = d.drop (ds.length + 2) := by
  obtain ⟨cur', b1, b2, b3, b4, b5, b6⟩ := h
  have hold : ∀ (j : Nat) (x : UInt8), d[j]? = some x → cur[j]? = some (Value.int .u8 (x.toNat : Int)) := fun j x hj => by
    have h5 := byteCells_at _ j x hj
    rw [← htk, List.getElem?_take] at h5
    split at h5
    · exact h5
    · cases h5
  obtain ⟨d', hl, hc⟩ := cells_bytes cur' d.length (fun j hj => by
    rcases b6 j with e | ⟨x, e⟩
    · exact ⟨d[j], by rw [e]; exact hold j _ (List.getElem?_eq_getElem hj)⟩
    · exact ⟨x, e⟩)
  have hone : ∀ (x y : UInt8), some (Value.int .u8 (x.toNat : Int)) = some (Value.int .u8 (y.toNat : Int)) → x = y := fun x y e => by
    simp only [Option.some.injEq, Value.int.injEq, true_and] at e
    exact UInt8.toNat_inj.1 (by omega)
  refine ⟨cur', d', b1, hl, hc, ?_, ?_⟩
  · apply List.ext_getElem?
    intro j
    rcases Nat.lt_or_ge j ds.length with hlt | hge
    · rw [List.getElem?_take, if_pos hlt]
      have h1 : d'[j]? = some d'[j] := List.getElem?_eq_getElem (by omega)
      have h2 : ds[j]? = some ds[j] := List.getElem?_eq_getElem hlt
      have e1 := hc j _ h1
      have e2 := b3 j _ h2
      rw [Nat.zero_add] at e2
      rw [h1, h2, hone _ _ (e1.symm.trans e2)]
    · rw [List.getElem?_take, if_neg (by omega), List.getElem?_eq_none (by omega)]
  · apply List.ext_getElem?
    intro j
    rw [List.getElem?_drop, List.getElem?_drop]
    rcases Nat.lt_or_ge (ds.length + 2 + j) d.length with hlt | hge
    · have h1 : d'[ds.length + 2 + j]? = some d'[ds.length + 2 + j] := List.getElem?_eq_getElem (by omega)
      have h2 : d[ds.length + 2 + j]? = some d[ds.length + 2 + j] := List.getElem?_eq_getElem hlt
      have e1 := hc _ _ h1
      have e2 := hold _ _ h2
      rw [← b4 _ (Or.inr (by omega))] at e2
      rw [h1, h2, hone _ _ (e1.symm.trans e2)]
    · rw [List.getElem?_eq_none (by omega), List.getElem?_eq_none (by omega)]

set_option maxHeartbeats 1000000 in
theorem decodeInto64I (s : ByteArray) (p : Int) (st : Bool) (vd : Value) (d : List UInt8) (v : Value) (l : List UInt8) (w : World) (hv : validP 6 s.data.toList p) (hdb : Bys w vd d) (hd : d.length ≤ 140737488351232) (hs : Bys w v l) (hroom : (decOf s.data.toList p false l).1.length ≤ d.length) (hr1 : (decOf s.data.toList p st l).1.length ≤ d.length) :
    Calls Try.prog 20 #[.string s, .int .i64 p, .bool st, vd, v] w (IntoPost (decOf s.data.toList p st l) d w) := by
  have HV := Lib.hid hv
  have HS := Lib.hid hs
  have HDB := Lib.hid hdb
  obtain ⟨A, c, rfl, hc, hcm, _⟩ := hs
  have HCM := Lib.hid hcm
  clear hv hdb hcm
  have HO : Hid (Own (w.alloc (.cells #[] 5)) w.heap.size w.heap.size 0 5 []) := owns_new _ (Nat.le_refl _)
  have HW1 : Hid (Below w.heap.size w (w.alloc (.cells #[] 5))) := (Below.refl _ _).alloc (Nat.le_refl _) _
  have HD1 : Hid (Bys (w.alloc (.cells #[] 5)) vd d) := HDB.out.below HW1.out
  go_enter Try.func20, Try.ntmps20
  go_wp2_with ((with_reducible refine wpList_append_bys rfl (.tmp 19) (.tmp 20) 23 rfl w.heap.size 5 Try.underlying23 byteInfo w.heap.size 0 [] HO.out ?_ _ d HD1.out ?_ ?_ ?_ ?_); rfl; rfl; (simp; omega); (simp); intro g' cap' w2 hO2 hg2)
  have hgg : w.heap.size ≤ g' := hO2.out.1
  have HB2 : Hid (Below w.heap.size w w2) := HW1.out.trans (grown_below hg2.out (Nat.le_refl _) HW1.out.size)
  simp only [List.nil_append] at hO2
  refine (encoding64 s p st _ HV.out).mono ?_
  rintro e w3 ⟨ge, rfl, hge, hb, hw⟩
  have HB := Lib.hid hb
  have HW := Lib.hid hw
  clear hb hw
  obtain ⟨_, h1, h2, cur, hbl, hlc, htk⟩ := hO2.out.keep HW.out
  have hgl : Hid (g' < w2.heap.size) := by obtain ⟨_, _, _, _, hq, _⟩ := hO2.out; exact hq.lt
  have hne : ge ≠ g' := by have := hgl.out; omega
  have HRD : Hid (Rd w3 g' A l) := by
    have h3 : Rd w g' A l := HS.out.rd hgg
    exact (h3.below HB2.out).below HW.out
  have HBL := Lib.hid hbl
  have HTK := Lib.hid htk
  have HLC := Lib.hid hlc
  have HH2 := Lib.hid h2
  clear hbl htk hlc h2
  go_wp2_with fail
  refine (decode64_any ge g' 0 0 d.length cap' c 5 _ p st A l cur w3 HB.out HV.out.1 HV.out.2.1 HV.out.2.2.1 (nl_not HV.out) hne HBL.out (fun _ => rfl) (by have := HLC.out; omega) h1 HH2.out hroom HRD.out hc HCM.out).mono ?_
  rintro e w4 ⟨rfl, hwr⟩
  have HFI : Hid (Below w.heap.size w w4) := by obtain ⟨_, _, _, _, _, u5, _⟩ := hwr; exact (below_trans' HB2.out HW.out).trans (grown_below u5 hgg (Nat.le_trans HB2.out.size HW.out.size))
  obtain ⟨cur', d', k1, k2, k3, k4, k5⟩ := wrote_bytes HTK.out hwr hr1
  have HBY : Hid (Bys w4 (.slice (some ⟨g', 0, none⟩) d.length cap') d') := by
    have := Bys.of_blk k1 0 cap' d' (by rw [k2]; exact h1) HH2.out (fun j x hj => by rw [Nat.zero_add]; exact k3 j x hj)
    rw [k2] at this
    exact this
  have HK := Lib.hid (And.intro k2 (And.intro k4 k5))
  clear hwr k1 k2 k3 k4 k5 hroom
  generalize decOf s.data.toList p st l = R at *
  obtain ⟨bs, err⟩ := R
  simp only at HK hr1 ⊢
  go_wp2_with fail
  refine (end64_any _ _).mono ?_
  rintro e w5 ⟨rfl, rfl⟩
  go_wp2
  refine bodyPost_ret (v := .tuple #[.slice (some ⟨g', 0, none⟩) d.length cap', .int .i64 (bs.length : Int), .bool (okOf err), .int .i64 (numOf err)]) (by simp [results, Try.results20, go_sem]) rfl ⟨_, _, _, rfl, HBY.out, HK.out.1, HK.out.2.1, HK.out.2.2, HFI.out⟩

end Go.Proofs.Ytppajccbeocpcaa
