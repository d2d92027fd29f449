/-
  Contracts of the thin package's AppendEncode32 and EncodeInto32. Conditions: the alphabet and the padding are valid; what is appended fits into 225179981368000 bytes.
-/
import Derived.Test.YtidpibcopldfpaaE32A
namespace Go.Proofs.Ytidpibcopldfpaa
open Go.RowKit

set_option maxHeartbeats 1000000 in
theorem appendEncode32I (s : ByteArray) (p : Int) (vd : Value) (d : List UInt8) (v : Value) (l : List UInt8) (w : World) (hv : validP 5 s.data.toList p) (hdb : Bys w vd d) (hd : d.length + lenN 5 p l.length ≤ 225179981368000) (hs : Bys w v l) (hl : l.length ≤ 140737488351232) :
    Calls Try.prog 22 #[.string s, .int .i64 p, vd, v] w fun e w' => ∃ v', e = .returned v' ∧ Bys w' v' (d ++ textOf 5 s.data.toList p l) ∧ Below w.heap.size w w' := by
  have HV := Lib.hid hv
  have HS := Lib.hid hs
  have HD := Lib.hid hdb
  clear hv hs hdb
  go_enter Try.func22, Try.ntmps22
  go_wp2_with fail
  refine (encoding32 s p _ HV.out).mono ?_
  rintro e w1 ⟨ge, rfl, hge, hb, hw⟩
  have HB := Lib.hid hb
  have HW := Lib.hid hw
  clear hb hw
  have HO : Hid (Own (w1.alloc (.cells #[] 5)) w1.heap.size w1.heap.size 0 5 []) := owns_new _ (Nat.le_refl _)
  have HW1 : Hid (Below w1.heap.size w1 (w1.alloc (.cells #[] 5))) := (Below.refl _ _).alloc (Nat.le_refl _) _
  have HD1 : Hid (Bys (w1.alloc (.cells #[] 5)) vd d) := HD.out.below (below_trans' HW.out HW1.out)
  go_wp2_with ((with_reducible refine wpList_append_bys rfl (.tmp 12) (.tmp 13) 22 rfl w1.heap.size 5 Try.underlying22 byteInfo w1.heap.size 0 [] HO.out ?_ _ d HD1.out ?_ ?_ ?_ ?_); rfl; rfl; (simp; omega); (simp); intro g' cap' w2 hO2 hg2)
  have hgg : w1.heap.size ≤ g' := hO2.out.1
  have HB2 : Hid (Below w1.heap.size w1 w2) := HW1.out.trans (grown_below hg2.out (Nat.le_refl _) HW1.out.size)
  have HB3 : Hid (Below w.heap.size w w2) := below_trans' HW.out HB2.out
  have hne : ge ≠ g' := by have := HB.out.lt; omega
  simp only [List.nil_append] at hO2
  have HY2 : Hid (Bys w2 v l) := HS.out.below HB3.out
  have HRD : Hid (Rd w2 g' (addrOf v) l) := by
    obtain ⟨A, c, hve, _⟩ := HS.out
    subst hve
    have h1 : Rd w g' A l := HS.out.rd (Nat.le_trans HW.out.size hgg)
    exact h1.below HB3.out
  refine (appendEncode32 ge w1.heap.size g' cap' _ p d v l w2 (HB.out.below HB2.out HB.out.lt) HV.out.1 HV.out.2.1 HV.out.2.2.1 hO2.out HB2.out.size hne HY2.out HRD.out hd hl).mono ?_
  rintro e w3 ⟨v', rfl, hby, hbe⟩
  have HBY := Lib.hid hby
  have HBE := Lib.hid hbe
  clear hby hbe
  go_wp2
  go_ret
  exact ⟨v', rfl, HBY.out, HB3.out.trans (HBE.out.mono HW.out.size)⟩

set_option maxHeartbeats 1000000 in
theorem encodeInto32I (s : ByteArray) (p : Int) (vd : Value) (d : List UInt8) (v : Value) (l : List UInt8) (w : World) (hv : validP 5 s.data.toList p) (hdb : Bys w vd d) (hd : d.length ≤ 225179981368000) (hs : Bys w v l) (hroom : lenN 5 p l.length ≤ d.length) :
    Calls Try.prog 18 #[.string s, .int .i64 p, vd, v] w fun e w' => ∃ g c, e = .returned (.slice (some ⟨g, 0, none⟩) d.length c) ∧ Bys w' (.slice (some ⟨g, 0, none⟩) d.length c) (textOf 5 s.data.toList p l ++ d.drop (lenN 5 p l.length)) ∧ Below w.heap.size w w' := by
  have HV := Lib.hid hv
  have HS := Lib.hid hs
  have HD := Lib.hid hdb
  obtain ⟨A, c, rfl, hc, hcm, _⟩ := hs
  clear hv hdb
  have HO : Hid (Own (w.alloc (.cells #[] 5)) w.heap.size w.heap.size 0 5 []) := owns_new _ (Nat.le_refl _)
  have HW1 : Hid (Below w.heap.size w (w.alloc (.cells #[] 5))) := (Below.refl _ _).alloc (Nat.le_refl _) _
  have HD1 : Hid (Bys (w.alloc (.cells #[] 5)) vd d) := HD.out.below HW1.out
  go_enter Try.func18, Try.ntmps18
  go_wp2_with ((with_reducible refine wpList_append_bys rfl (.tmp 10) (.tmp 11) 22 rfl w.heap.size 5 Try.underlying22 byteInfo w.heap.size 0 [] HO.out ?_ _ d HD1.out ?_ ?_ ?_ ?_); rfl; rfl; (simp; omega); (simp); intro g' cap' w2 hO2 hg2)
  have hgg : w.heap.size ≤ g' := hO2.out.1
  have HB2 : Hid (Below w.heap.size w w2) := HW1.out.trans (grown_below hg2.out (Nat.le_refl _) HW1.out.size)
  simp only [List.nil_append] at hO2
  refine (encoding32 s p _ HV.out).mono ?_
  rintro e w3 ⟨ge, rfl, hge, hb, hw⟩
  have HB := Lib.hid hb
  have HW := Lib.hid hw
  clear hb hw
  obtain ⟨_, h1, h2, cur, hbl, hlc, htk⟩ := hO2.out.keep HW.out
  have hgl : Hid (g' < w2.heap.size) := by obtain ⟨_, _, _, _, hq, _⟩ := hO2.out; exact hq.lt
  have hne : ge ≠ g' := by have := hgl.out; omega
  have HRD : Hid (Rd w3 g' A l) := by
    have h3 : Rd w g' A l := HS.out.rd hgg
    exact (h3.below HB2.out).below HW.out
  have HBL := Lib.hid hbl
  have HTK := Lib.hid htk
  have HLC := Lib.hid hlc
  have HH2 := Lib.hid h2
  clear hbl htk hlc h2
  go_wp2_with fail
  refine (encode32_any ge g' 0 d.length cap' c 5 _ p _ A l cur w3 HB.out HV.out.1 HV.out.2.1 HV.out.2.2.1 hne HBL.out (fun _ => rfl) (by have := HLC.out; omega) hroom h1 HH2.out HRD.out hc hcm).mono ?_
  rintro e w4 ⟨rfl, hb4, hg4⟩
  have htl := textOf_length5 s.data.toList p l
  have HBY : Hid (Bys w4 (.slice (some ⟨g', 0, none⟩) d.length cap') (textOf 5 s.data.toList p l ++ d.drop (lenN 5 p l.length))) := by
    have hlen : (textOf 5 s.data.toList p l ++ d.drop (lenN 5 p l.length)).length = d.length := by rw [List.length_append, htl, List.length_drop]; omega
    have hst := splice_take cur (Lib.byteCells (textOf 5 s.data.toList p l)) d.length (by rw [Lib.byteCells_length, htl]; exact hroom)
    rw [HTK.out, Lib.byteCells_length, htl] at hst
    have hdr : (Lib.byteCells d).drop (lenN 5 p l.length) = Lib.byteCells (d.drop (lenN 5 p l.length)) := by simp [Lib.byteCells]
    rw [hdr, ← Lib.byteCells_append] at hst
    have := Bys.of_blk hb4 0 cap' (textOf 5 s.data.toList p l ++ d.drop (lenN 5 p l.length)) (by rw [hlen]; exact h1) HH2.out (fun j x hj => by
      rw [Nat.zero_add]
      have h5 := byteCells_at _ j x hj
      rw [← hst, List.getElem?_take] at h5
      split at h5
      · exact h5
      · cases h5)
    rw [hlen] at this
    exact this
  have HFI : Hid (Below w.heap.size w w4) := (below_trans' HB2.out HW.out).trans (grown_below hg4 hgg (Nat.le_trans HB2.out.size HW.out.size))
  clear hb4 hg4 htl
  go_wp2
  go_ret
  exact ⟨_, _, rfl, HBY.out, HFI.out⟩

end Go.Proofs.Ytidpibcopldfpaa
