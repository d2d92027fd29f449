/-
  Contracts of base64's AppendDecode and of the thin package's AppendDecode64: the bytes behind what is there, and the error. Conditions: the alphabet and the padding are valid; what is appended fits into 225179981368000 bytes.
-/
import Derived.Test.YtppajccbeocpcaaD64S
import Derived.Test.YtppajccbeocpcaaApp
namespace Go.Proofs.Ytppajccbeocpcaa
open Go.RowKit
set_option linter.unusedVariables false

/-- The length of what is left of the first k characters without the paddings at their end. -/
def trimN (p : Int) (l : List UInt8) : Nat → Nat
  | 0 => 0
  | k + 1 => if ((l.getD k 0).toNat : Int) = p then trimN p l k else k + 1

theorem trimN_le (p : Int) (l : List UInt8) : ∀ k, trimN p l k ≤ k
  | 0 => Nat.le_refl _
  | k + 1 => by
    unfold trimN
    split
    · have := trimN_le p l k; omega
    · exact Nat.le_refl _

theorem trimN_count (a : List UInt8) (p : Int) (l : List UInt8) (hpl : ∀ c, isL a c = true → (c.toNat : Int) ≠ p) : ∀ k, k ≤ l.length → (l.take k).countP (isL a) ≤ trimN p l k
  | 0, _ => by simp
  | k + 1, hk => by
    have hg : l.getD k 0 = l[k] := by simp [List.getD, List.getElem?_eq_getElem (show k < l.length by omega)]
    unfold trimN
    split
    · rename_i h
      rw [List.take_succ_eq_append_getElem (by omega), List.countP_append]
      have h1 : isL a l[k] = false := by
        cases hc : isL a l[k]
        · rfl
        · exact absurd (by rw [← hg]; exact h) (hpl _ hc)
      have := trimN_count a p l hpl k (by omega)
      simp [h1]
      exact this
    · have := List.countP_le_length (p := isL a) (l := l.take (k + 1))
      simp at this
      omega

theorem trim_room {a : List UInt8} {p : Int} (hv : validP 6 a p) (st : Bool) (l : List UInt8) : (decOf a p st l).1.length ≤ roomC (trimN p l l.length) := by
  have h1 := (dec_room a p st l l.length 0 (by omega)).2
  have h2 := trimN_count a p l (fun c hc => pad_not_letter hv c hc) l.length (Nat.le_refl _)
  rw [List.take_length] at h2
  rw [List.drop_zero] at h1
  exact Nat.le_trans h1 (roomC_mono _ _ h2)
theorem roomC_small (n : Nat) : roomC n ≤ n := by unfold roomC; omega
theorem decLen64_none (n : Nat) : decLen64 (-1) (n : Int) = ((roomC n : Nat) : Int) := by
  unfold decLen64 roomC
  rw [if_pos rfl]
  omega

/-- What AppendDecode leaves. -/
def AppPost (T : TypeId) (R : List UInt8 × Option Int) (d : List UInt8) (B : Nat) (w : World) (e : Ending) (w' : World) : Prop :=
  ∃ g c, e = .returned (.tuple #[.slice (some ⟨g, 0, none⟩) (d.length + R.1.length) c, errV T R.2]) ∧ Bys w' (.slice (some ⟨g, 0, none⟩) (d.length + R.1.length) c) (d ++ R.1) ∧ Below B w w'

/-- What lies behind the decoder in a row of which the first bytes are d. -/
theorem wrote_app {g : Nat} {t : TypeId} {cur : List Value} {w wr : World} {ds d : List UInt8} {cap : Nat} (htk : cur.take d.length = Lib.byteCells d) (h : Wrote g d.length t cur w ds wr) (hc : d.length + ds.length ≤ cap) (hcm : cap ≤ maxLen) :
    Bys wr (.slice (some ⟨g, 0, none⟩) (d.length + ds.length) cap) (d ++ ds) := by
  obtain ⟨cur', b1, b2, b3, b4, b5, b6⟩ := h
  have := Bys.of_blk b1 0 cap (d ++ ds) (by rw [List.length_append]; exact hc) hcm (fun j x hj => by
    rw [Nat.zero_add]
    rcases Nat.lt_or_ge j d.length with hlt | hge
    · rw [List.getElem?_append_left hlt] at hj
      rw [b4 j (Or.inl hlt)]
      have h5 := byteCells_at _ j x hj
      rw [← htk, List.getElem?_take, if_pos hlt] at h5
      exact h5
    · rw [List.getElem?_append_right hge] at hj
      have := b3 _ x hj
      rw [show d.length + (j - d.length) = j by omega] at this
      exact this)
  rw [List.length_append] at this
  exact this

set_option maxHeartbeats 1000000 in
set_option maxRecDepth 100000 in
theorem appendDecode64 (ge B g cap : Nat) (a : List UInt8) (p : Int) (st : Bool) (d : List UInt8) (v : Value) (l : List UInt8) (w : World)
    (he : Blk w ge 71 (encTo a 64 [.int .i32 p, .bool st])) (hv : validP 6 a p)
    (ho : Own w B g cap 5 d) (hB : B ≤ w.heap.size) (hgne : ge ≠ g) (hs : Bys w v l) (hsg : Rd w g (addrOf v) l) (hd : d.length + l.length ≤ 225179981368000) :
    Calls Try.prog 37 #[.pointer (some ⟨ge, 0, none⟩), .slice (some ⟨g, 0, none⟩) d.length cap, v] w (AppPost 64 (decOf a p st l) d B w) := by
  have HE := Lib.hid he
  have HV := Lib.hid hv
  have HS := Lib.hid hs
  have HO := Lib.hid ho
  have hp1 := hv.2.1
  have hp2 := hv.2.2.1
  have hr1 := trim_room hv st l
  have hr0 := trim_room hv false l
  have hRs := roomC_small (trimN p l l.length)
  have hTs := trimN_le p l l.length
  have HX := Lib.hid (decLen64_none (trimN p l l.length))
  have hbp : Hid (w.cell? ⟨ge, 320, none⟩ = some (.int .i32 p)) := by
    show _ = _
    rw [he.cell, show 320 = 64 + 256 + 0 from rfl, encTo_tail a 64 _ 64 0 hv.1]
    rfl
  obtain ⟨A, c, rfl, hc, hcm, hcell⟩ := hs
  have HCELL := Lib.hid hcell
  have HSG : Hid (Rd w g A l) := hsg
  have hBg := ho.1
  have hcap := ho.2.1
  have hcapm := ho.2.2.1
  clear he hv ho hsg hcell
  obtain ⟨T, hTe⟩ : ∃ T, T = trimN p l l.length := ⟨_, rfl⟩
  rw [← hTe] at hr1 hr0 hRs hTs HX
  have HTe := Lib.hid hTe
  clear hTe
  obtain ⟨N, hNe⟩ : ∃ N, N = roomC T := ⟨_, rfl⟩
  rw [← hNe] at hr1 hr0 hRs HX
  clear hNe
  have HCM := Lib.hid hcm
  have HCPM := Lib.hid hcapm
  unfold maxLen at hcm hcapm
  -- what is left behind Grow, for both of its ways
  have main : ∀ (g' cap' : Nat) (w1 : World), Own w1 B g' cap' 5 d → d.length + N ≤ cap' → Below w.heap.size w w1 → ge ≠ g' → Rd w1 g' A l → ∀ od : Nat, (0 < N → od = d.length) →
      Calls Try.prog 35 #[.pointer (some ⟨ge, 0, none⟩), .slice (some ⟨g', od, none⟩) N (cap' - d.length), .slice A l.length c] w1 fun e w' => e = .returned (.tuple #[.int .i64 ((decOf a p st l).1.length : Int), errV 64 (decOf a p st l).2]) ∧ Hid (Bys w' (.slice (some ⟨g', 0, none⟩) (d.length + (decOf a p st l).1.length) cap') (d ++ (decOf a p st l).1)) ∧ Hid (w1.grownBy w' (some g')) := by
    intro g' cap' w1 hO hcp hbw hne hrd od hD
    obtain ⟨_, h1, h2, cur, hb, hlc, htk⟩ := hO
    refine (decode64_any ge g' d.length od N (cap' - d.length) c 5 a p st A l cur w1 (HE.out.below hbw HE.out.lt) HV.out.1 hp1 hp2 (nl_not HV.out) hne hb hD (by omega) (by omega) (by omega) hr0 hrd hc HCM.out).mono ?_
    rintro e w2 ⟨rfl, hwr⟩
    refine ⟨rfl, wrote_app htk hwr (by omega) h2, ?_⟩
    obtain ⟨_, _, _, _, _, u5, _⟩ := hwr
    exact u5
  have MAIN := Lib.hid main
  clear main
  have hgE : Hid (ge < w.heap.size) := HE.out.lt
  generalize hR : decOf a p st l = R at *
  obtain ⟨bs, err⟩ := R
  simp only at hr1 MAIN
  have HR := Lib.hid hR
  clear hR hr0
  go_enter Try.func37, Try.ntmps37
  go_upto_block 0 with fail
  go_cut [8] (fun s8 wx => ∃ q : Nat, s8 = .int .i64 (T : Int) ∧ wx = w.drewN q)
  case first =>
    go_wp2_with fail
    go_loopw [8] (fun n wr => ∃ k q : Nat, k ≤ l.length ∧ n = .int .i64 (k : Int) ∧ Hid (trimN p l l.length = trimN p l k) ∧ wr = w.drewN q) (fun n _ => (intOf n).toNat)
    case atStart => exact ⟨l.length, 0, Nat.le_refl _, rfl, rfl, rfl⟩
    case round =>
      obtain ⟨k, q, hk, rfl, htr, rfl⟩ := hrel
      rcases Nat.eq_zero_or_pos k with h0 | h0
      · subst h0
        have HT0 : Hid (T = 0) := by show _ = _; rw [HTe.out, htr.out]; rfl
        have hz : decide ((0 : Int) < ((0 : Nat) : Int)) = false := by simp
        go_wp2_with fail
        go_quiet (fail)
        go_wp2
        go_meet
        exact ⟨_, by rw [HT0.out], World.drewN_drewN ..⟩
      · obtain ⟨j, rfl⟩ : ∃ j, k = j + 1 := ⟨k - 1, by omega⟩
        obtain ⟨cb, hcb⟩ : ∃ cb, l[j]? = some cb := ⟨_, List.getElem?_eq_getElem (by omega)⟩
        obtain ⟨b, off, hA, hbs, hcs⟩ := HCELL.out (by omega)
        subst hA
        have hcell := hcs j cb hcb
        have hpc := hbp.out
        have hg : l.getD j 0 = cb := by rw [List.getD_eq_getElem?_getD, hcb]; rfl
        have hstep : trimN p l (j + 1) = if (cb.toNat : Int) = p then trimN p l j else j + 1 := by rw [trimN, hg]
        have HSTEP := Lib.hid hstep
        have hcb8 := cb.toNat_lt
        clear hcs hcb hg hstep h0
        by_cases hpp : (cb.toNat : Int) = p
        · have HPP := Lib.hid hpp
          have hpb : ((cb.toNat : Int) == p) = true := by simpa using hpp
          clear hpp
          go_wp2_with fail
          go_quiet (fail)
          go_wp2
          go_roundw
          case rel => exact ⟨j, _, by omega, by go_num, by rw [HSTEP.out, if_pos HPP.out] at htr; exact htr, rfl⟩
          case measure => simp [intOf]
        · have hpb : ((cb.toNat : Int) == p) = false := by simpa using hpp
          have HT0 : Hid (T = j + 1) := by show _ = _; rw [HTe.out, htr.out, HSTEP.out, if_neg hpp]
          clear hpp
          go_wp2_with fail
          go_quiet (fail)
          go_wp2
          go_meet
          exact ⟨_, by rw [HT0.out], World.drewN_drewN ..⟩
  case rest =>
    obtain ⟨q, rfl, rfl⟩ := hcut
    have HE' : Hid (Blk (w.drewN q) ge 71 (encTo a 64 [.int .i32 p, .bool st])) := HE.out.drewN q
    have HO' : Hid (Own (w.drewN q) B g cap 5 d) := HO.out
    have HSG' : Hid (Rd (w.drewN q) g A l) := HSG.out
    have HBq : Hid (Below w.heap.size w (w.drewN q)) := below_drewN (Below.refl _ w) q
    by_cases hroom : d.length + N ≤ cap
    · rcases (by omega : cap = d.length ∨ d.length < cap) with hce | hce
      · subst hce
        have HN0 : Hid (N = 0) := by show _ = _; omega
        go_wp2_with fail
        refine (decLen64_any (-1) (T : Int) _ (by omega) (by omega)).mono ?_
        rintro e w1 ⟨rfl, rfl⟩
        rw [HX.out]
        go_wp2_with fail
        refine (grow_room B g d.length N d _ HO'.out hroom).mono ?_
        rintro e w1 ⟨rfl, rfl⟩
        go_wp2_with fail
        have M := MAIN.out g d.length (w.drewN q) HO'.out hroom HBq.out hgne HSG'.out 0 (fun h => by have := HN0.out; omega)
        rw [Nat.sub_self] at M
        refine M.mono ?_
        rintro e w2 ⟨rfl, hb2, hg2⟩
        clear M
        go_wp2
        go_ret2
        exact ⟨_, _, rfl, hb2.out, (below_drewN (Below.refl B w) q).trans (grown_below hg2.out hBg hB)⟩
      · go_wp2_with fail
        refine (decLen64_any (-1) (T : Int) _ (by omega) (by omega)).mono ?_
        rintro e w1 ⟨rfl, rfl⟩
        rw [HX.out]
        go_wp2_with fail
        refine (grow_room B g cap N d _ HO'.out hroom).mono ?_
        rintro e w1 ⟨rfl, rfl⟩
        go_wp2_with fail
        refine (MAIN.out g cap (w.drewN q) HO'.out hroom HBq.out hgne HSG'.out d.length (fun _ => rfl)).mono ?_
        rintro e w2 ⟨rfl, hb2, hg2⟩
        go_wp2
        go_ret2
        exact ⟨_, _, rfl, hb2.out, (below_drewN (Below.refl B w) q).trans (grown_below hg2.out hBg hB)⟩
    · go_wp2_with fail
      refine (decLen64_any (-1) (T : Int) _ (by omega) (by omega)).mono ?_
      rintro e w1 ⟨rfl, rfl⟩
      rw [HX.out]
      go_wp2_with fail
      refine (grow_grow B g cap N d _ HO'.out hB (by omega) (by omega)).mono ?_
      rintro e w1 ⟨g', cap', rfl, hO', hcp, hbw, hg'⟩
      have HO1 := Lib.hid hO'
      have HBW : Hid (Below w.heap.size w w1) := HBq.out.trans hbw
      have hcp2 := hO'.2.2.1
      unfold maxLen at hcp2
      have hlt' : d.length < cap' := by omega
      have hg2' : w.heap.size ≤ g' := hg'
      have hne' : ge ≠ g' := by have := HE.out.lt; omega
      clear hO' hbw hg'
      have HRD : Hid (Rd w1 g' A l) := by
        have h1 : Rd w g' A l := HS.out.rd hg2'
        exact h1.below HBW.out
      go_wp2_with fail
      refine (MAIN.out g' cap' w1 HO1.out hcp HBW.out hne' HRD.out d.length (fun _ => rfl)).mono ?_
      rintro e w2 ⟨rfl, hb2, hg2⟩
      go_wp2
      go_ret2
      exact ⟨_, _, rfl, hb2.out, (HBW.out.mono hB).trans (grown_below hg2.out (by omega) (Nat.le_trans hB HBW.out.size))⟩

/-- What the thin package's AppendDecode64 leaves. -/
def AppDecPost (R : List UInt8 × Option Int) (d : List UInt8) (w : World) (e : Ending) (w' : World) : Prop :=
  ∃ g c, e = .returned (.tuple #[.slice (some ⟨g, 0, none⟩) (d.length + R.1.length) c, .bool (okOf R.2), .int .i64 (numOf R.2)]) ∧ Bys w' (.slice (some ⟨g, 0, none⟩) (d.length + R.1.length) c) (d ++ R.1) ∧ Below w.heap.size w w'

set_option maxHeartbeats 1000000 in
theorem appendDecode64I (s : ByteArray) (p : Int) (st : Bool) (vd : Value) (d : List UInt8) (v : Value) (l : List UInt8) (w : World) (hv : validP 6 s.data.toList p) (hdb : Bys w vd d) (hs : Bys w v l) (hd : d.length + l.length ≤ 225179981368000) :
    Calls Try.prog 22 #[.string s, .int .i64 p, .bool st, vd, v] w (AppDecPost (decOf s.data.toList p st l) d w) := by
  have HV := Lib.hid hv
  have HS := Lib.hid hs
  have HD := Lib.hid hdb
  clear hv hs hdb
  go_enter Try.func22, Try.ntmps22
  go_wp2_with fail
  refine (encoding64 s p st _ HV.out).mono ?_
  rintro e w1 ⟨ge, rfl, hge, hb, hw⟩
  have HB := Lib.hid hb
  have HW := Lib.hid hw
  clear hb hw
  have HO : Hid (Own (w1.alloc (.cells #[] 5)) w1.heap.size w1.heap.size 0 5 []) := owns_new _ (Nat.le_refl _)
  have HW1 : Hid (Below w1.heap.size w1 (w1.alloc (.cells #[] 5))) := (Below.refl _ _).alloc (Nat.le_refl _) _
  have HD1 : Hid (Bys (w1.alloc (.cells #[] 5)) vd d) := HD.out.below (below_trans' HW.out HW1.out)
  go_wp2_with ((with_reducible refine wpList_append_bys rfl (.tmp 22) (.tmp 23) 23 rfl w1.heap.size 5 Try.underlying23 byteInfo w1.heap.size 0 [] HO.out ?_ _ d HD1.out ?_ ?_ ?_ ?_); rfl; rfl; (simp; omega); (simp); intro g' cap' w2 hO2 hg2)
  have hgg : w1.heap.size ≤ g' := hO2.out.1
  have HB2 : Hid (Below w1.heap.size w1 w2) := HW1.out.trans (grown_below hg2.out (Nat.le_refl _) HW1.out.size)
  have HB3 : Hid (Below w.heap.size w w2) := below_trans' HW.out HB2.out
  have hne : ge ≠ g' := by have := HB.out.lt; omega
  simp only [List.nil_append] at hO2
  have HY2 : Hid (Bys w2 v l) := HS.out.below HB3.out
  have HRD : Hid (Rd w2 g' (addrOf v) l) := by
    obtain ⟨A, c, hve, _⟩ := HS.out
    subst hve
    have h1 : Rd w g' A l := HS.out.rd (Nat.le_trans HW.out.size hgg)
    exact h1.below HB3.out
  refine (appendDecode64 ge w1.heap.size g' cap' _ p st d v l w2 (HB.out.below HB2.out HB.out.lt) HV.out hO2.out HB2.out.size hne HY2.out HRD.out hd).mono ?_
  rintro e w3 ⟨g3, c3, rfl, hby, hbe⟩
  have HBY := Lib.hid hby
  have HBE := Lib.hid (HB3.out.trans (hbe.mono HW.out.size))
  clear hby hbe
  generalize decOf s.data.toList p st l = R at *
  obtain ⟨bs, err⟩ := R
  simp only at HBY ⊢
  go_wp2_with fail
  refine (end64_any _ _).mono ?_
  rintro e w5 ⟨rfl, rfl⟩
  go_wp2
  go_ret3
  exact ⟨_, _, rfl, HBY.out, HBE.out⟩

end Go.Proofs.Ytppajccbeocpcaa
