/-
  Contracts of base32's AppendEncode and of the thin package's AppendEncode32 and EncodeInto32. Conditions: the alphabet and the padding are valid; what is appended fits into 225179981368000 bytes.
-/
import Derived.Test.YtidpibcopldfpaaE32S
import Derived.Test.YtidpibcopldfpaaApp
namespace Go.Proofs.Ytidpibcopldfpaa
open Go.RowKit

set_option maxHeartbeats 1000000 in
set_option maxRecDepth 100000 in
theorem appendEncode32 (ge B g cap : Nat) (a : List UInt8) (p : Int) (d : List UInt8) (v : Value) (l : List UInt8) (w : World)
    (he : Blk w ge 51 (encTo a 32 [.int .i32 p])) (hz : a.length = 32) (hp1 : -1 ≤ p) (hp2 : p ≤ 255)
    (ho : Own w B g cap 5 d) (hB : B ≤ w.heap.size) (hgne : ge ≠ g) (hs : Bys w v l) (hsg : Rd w g (addrOf v) l) (hd : d.length + lenN 5 p l.length ≤ 225179981368000) (hl : l.length ≤ 140737488351232) :
    Calls Try.prog 30 #[.pointer (some ⟨ge, 0, none⟩), .slice (some ⟨g, 0, none⟩) d.length cap, v] w fun e w' => ∃ v', e = .returned v' ∧ Bys w' v' (d ++ textOf 5 a p l) ∧ Below B w w' := by
  have HE := Lib.hid he
  have HZ := Lib.hid hz
  have HS := Lib.hid hs
  have HO := Lib.hid ho
  have HX := Lib.hid (encLen32_lenN p l.length hp1)
  have hN := lenN5_le p l.length
  have HT := Lib.hid (textOf_length5 a p l)
  obtain ⟨A, c, rfl, hc, hcm, _⟩ := hs
  have HSG : Hid (Rd w g A l) := hsg
  have hBg := ho.1
  have hcap := ho.2.1
  have hcapm := ho.2.2.1
  clear he hz ho hsg
  obtain ⟨N, hNe⟩ : ∃ N, N = lenN 5 p l.length := ⟨_, rfl⟩
  rw [← hNe] at hN hd
  have HNe := Lib.hid hNe
  clear hNe
  have HCM := Lib.hid hcm
  have HCPM := Lib.hid hcapm
  unfold maxLen at hcm hcapm
  have hgsz : Hid (g < w.heap.size) := by obtain ⟨_, _, _, cur, hb, _⟩ := HO.out; exact hb.lt
  -- what is left behind Grow, for both of its ways
  have main : ∀ (g' cap' : Nat) (w1 : World), Own w1 B g' cap' 5 d → d.length + N ≤ cap' → cap' ≤ 2 ^ 63 - 1 → Below w.heap.size w w1 → ge ≠ g' → Rd w1 g' A l → ∀ D : Option Addr, (0 < N → D = some ⟨g', d.length, none⟩) →
      Calls Try.prog 28 #[.pointer (some ⟨ge, 0, none⟩), .slice D N (cap' - d.length), .slice A l.length c] w1 fun e w' => e = .returned (.tuple #[]) ∧ Hid (Bys w' (.slice (some ⟨g', 0, none⟩) (d.length + N) cap') (d ++ textOf 5 a p l)) ∧ Hid (w1.grownBy w' (some g')) := by
    intro g' cap' w1 hO hcp hcp2 hbw hne hrd D hD
    obtain ⟨_, h1, h2, cur, hb, hlc, htk⟩ := hO
    refine (encode32_any ge g' d.length N (cap' - d.length) c 5 a p D A l cur w1 (HE.out.below hbw HE.out.lt) HZ.out hp1 hp2 hne hb hD (by omega) (by rw [HNe.out]; exact Nat.le_refl _) (by omega) (by unfold maxLen; omega) hrd hc HCM.out).mono ?_
    rintro e w2 ⟨rfl, hb2, hg2⟩
    have hlen : (Lib.byteCells (textOf 5 a p l)).length = N := by rw [Lib.byteCells_length, HT.out, HNe.out]
    refine ⟨rfl, ?_, hg2⟩
    have hll : (d ++ textOf 5 a p l).length = d.length + N := by rw [List.length_append, HT.out, ← HNe.out]
    have htt := take_splice cur (Lib.byteCells (textOf 5 a p l)) d.length (by rw [hlen]; omega)
    rw [hlen, htk, ← Lib.byteCells_append] at htt
    have := Bys.of_blk hb2 0 cap' (d ++ textOf 5 a p l) (by rw [hll]; exact hcp) h2 (fun j x hj => by
      rw [Nat.zero_add]
      have h5 := byteCells_at _ j x hj
      rw [← htt, List.getElem?_take] at h5
      split at h5
      · exact h5
      · cases h5)
    rw [hll] at this
    exact this
  have MAIN := Lib.hid main
  clear main
  by_cases hroom : d.length + N ≤ cap
  · rcases (by omega : cap = d.length ∨ d.length < cap) with hce | hce
    · subst hce
      have HN0 : Hid (N = 0) := by show _ = _; omega
      go_enter Try.func30, Try.ntmps30
      go_wp2_with fail
      refine (encodedLen32_any ge a p (l.length : Int) _ HE.out HZ.out (by omega) (by omega)).mono ?_
      rintro e w1 ⟨rfl, rfl⟩
      rw [HX.out, ← HNe.out]
      go_wp2_with fail
      refine (grow_room B g d.length N d _ HO.out hroom).mono ?_
      rintro e w1 ⟨rfl, rfl⟩
      go_wp2_with fail
      have M := MAIN.out g d.length w HO.out hroom hcapm (Below.refl _ _) hgne HSG.out (some ⟨g, 0, none⟩) (fun h => by have := HN0.out; omega)
      rw [Nat.sub_self] at M
      refine M.mono ?_
      rintro e w2 ⟨rfl, hb2, hg2⟩
      clear M
      go_wp2
      go_ret
      exact ⟨_, rfl, hb2.out, grown_below hg2.out hBg hB⟩
    · go_enter Try.func30, Try.ntmps30
      go_wp2_with fail
      refine (encodedLen32_any ge a p (l.length : Int) _ HE.out HZ.out (by omega) (by omega)).mono ?_
      rintro e w1 ⟨rfl, rfl⟩
      rw [HX.out, ← HNe.out]
      go_wp2_with fail
      refine (grow_room B g cap N d _ HO.out hroom).mono ?_
      rintro e w1 ⟨rfl, rfl⟩
      go_wp2_with fail
      refine (MAIN.out g cap w HO.out hroom hcapm (Below.refl _ _) hgne HSG.out (some ⟨g, d.length, none⟩) (fun _ => rfl)).mono ?_
      rintro e w2 ⟨rfl, hb2, hg2⟩
      go_wp2
      go_ret
      exact ⟨_, rfl, hb2.out, grown_below hg2.out hBg hB⟩
  · go_enter Try.func30, Try.ntmps30
    go_wp2_with fail
    refine (encodedLen32_any ge a p (l.length : Int) _ HE.out HZ.out (by omega) (by omega)).mono ?_
    rintro e w1 ⟨rfl, rfl⟩
    rw [HX.out, ← HNe.out]
    go_wp2_with fail
    refine (grow_grow B g cap N d _ HO.out hB (by omega) (by omega)).mono ?_
    rintro e w1 ⟨g', cap', rfl, hO', hcp, hbw, hg'⟩
    have HO' := Lib.hid hO'
    have HBW := Lib.hid hbw
    have hcp2 := hO'.2.2.1
    unfold maxLen at hcp2
    have hlt' : d.length < cap' := by omega
    have hne' : ge ≠ g' := by have := HE.out.lt; omega
    clear hO' hbw
    have HRD : Hid (Rd w1 g' A l) := by
      have h1 : Rd w g' A l := HS.out.rd hg'
      exact h1.below HBW.out
    go_wp2_with fail
    refine (MAIN.out g' cap' w1 HO'.out hcp hcp2 HBW.out hne' HRD.out (some ⟨g', d.length, none⟩) (fun _ => rfl)).mono ?_
    rintro e w2 ⟨rfl, hb2, hg2⟩
    go_wp2
    go_ret
    exact ⟨_, rfl, hb2.out, (HBW.out.mono hB).trans (grown_below hg2.out (by omega) (Nat.le_trans hB HBW.out.size))⟩

end Go.Proofs.Ytidpibcopldfpaa
