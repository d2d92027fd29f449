/-
  Contracts of base32's Decode and AppendDecode, and of the thin package's DecodeInto32 and AppendDecode32. Conditions: the alphabet and the padding are valid; dst has room; what is appended fits into 225179981368000 bytes.
-/
import Derived.Test.YtanebcdhjkpnjaaO32S
import Derived.Test.YtanebcdhjkpnjaaApp
namespace Go.Proofs.Ytanebcdhjkpnjaa
open Go.RowKit
set_option linter.unusedVariables false

/-- What Decode leaves. -/
def D32Post (T : TypeId) (R : List UInt8 × Option Int) (g o : Nat) (t : TypeId) (cur : List Value) (w : World) (e : Ending) (w' : World) : Prop :=
  e = .returned (.tuple #[.int .i64 (R.1.length : Int), errV T R.2]) ∧ Wr32 g o t cur w R.1 w'

theorem rs_of_rd {w w1 : World} {g gB : Nat} {A : Option Addr} {src : List UInt8} (h : Rd w g A src) (hw : Below w.heap.size w w1) (hg : w.heap.size ≤ gB) : ∃ b off, (0 < src.length → A = some ⟨b, off, none⟩) ∧ Rs32 w1 gB 0 b off src := by
  rcases Nat.eq_zero_or_pos src.length with h0 | h0
  · obtain rfl : src = [] := List.eq_nil_of_length_eq_zero h0
    exact ⟨0, 0, fun h => by simp at h, Or.inr (Nat.le_refl _), fun j x hj => by simp at hj⟩
  · obtain ⟨b, off, e, hb, hc⟩ := h h0
    have hlt : b < w.heap.size := World.block_lt_of_cell? w ⟨b, off + 0, none⟩ (hc 0 _ (List.getElem?_eq_getElem h0))
    exact ⟨b, off, fun _ => e, Or.inl (by omega), fun j x hj => (hw.cell (p := ⟨b, off + j, none⟩) hlt).trans (hc j x hj)⟩

set_option maxHeartbeats 1000000 in
theorem decodeD32 (ge g o od m mc c : Nat) (t : TypeId) (a : List UInt8) (p : Int) (A : Option Addr) (src : List UInt8) (cur : List Value) (w : World)
    (he : Blk w ge 73 (encTo a 32 [.int .i32 p])) (hv : validP 5 a p) (hegn : ge ≠ g)
    (hb : Blm w g t cur) (hD : 0 < m → od = o) (hfit : o + m ≤ cur.length) (hmc : m ≤ mc) (hmx : mc ≤ maxLen)
    (hroom : (dec32 a p src).1.length ≤ m) (hs : Rd w g A src) (hc : src.length ≤ c) (hcx : c ≤ maxLen) (hl : src.length ≤ 281474976710656) :
    Calls Try.prog 29 #[.pointer (some ⟨ge, 0, none⟩), .slice (some ⟨g, od, none⟩) m mc, .slice A src.length c] w (D32Post 67 (dec32 a p src) g o t cur w) := by
  have HE := Lib.hid he
  have HV := Lib.hid hv
  have hp1 := hv.2.1
  have hp2 := hv.2.2.1
  have HB := Lib.hid hb
  have HS := Lib.hid hs
  have HD := Lib.hid hD
  have HMX := Lib.hid hmx
  have HCX := Lib.hid hcx
  unfold maxLen at hmx hcx
  have hgl := hb.lt
  have hsl := List.length_filter_le (fun c : UInt8 => !isNL c) src
  have hstr : (strip src).length ≤ src.length := hsl
  clear he hv hb hs hD hsl
  obtain ⟨N, hN⟩ : ∃ N, N = src.length := ⟨_, rfl⟩
  rw [← hN] at hc hl hstr
  have HN := Lib.hid hN
  rw [← hN]
  clear hN
  go_enter Try.func29, Try.ntmps29
  go_wp2_with (first
    | ((with_reducible refine wpList_make_bytes rfl 22 _ _ rfl 5 Try.underlying22 byteInfo N ?_ ?_ ?_ ?_); omega; rfl; rfl; intro w1 hb1 he1)
    | fail)
  have HW1 : Hid (Below w.heap.size w w1) := by have := (Below.refl w.heap.size w).alloc (Nat.le_refl _) (.cells (List.replicate N (Value.int .u8 0)).toArray 5); rw [← he1.out] at this; exact this
  clear he1
  obtain ⟨b, off, hA, hrs⟩ := rs_of_rd HS.out HW1.out (Nat.le_refl w.heap.size)
  have hst := strip32 w.heap.size 0 N N c b off 5 A src (List.replicate N (Value.int .u8 0)) w1 hb1.out.blm (by simp) (by rw [← HN.out]; exact Nat.le_refl _) (Nat.le_refl _) (by unfold maxLen; omega) hA hrs (by rw [← HN.out]; exact hc) HCX.out
  rw [← HN.out] at hst
  refine hst.mono ?_
  rintro e w2 ⟨rfl, hw2⟩
  clear hst hA hrs
  obtain ⟨cs2, b2, l2, q2, _, g2⟩ := hw2
  have HRS2 : Hid (Rs32 w2 g o w.heap.size 0 (strip src)) := ⟨Or.inl (by omega), fun j x hj => by
    rw [Nat.zero_add, b2.cell]
    have := q2 j x hj
    rw [Nat.zero_add] at this
    exact this⟩
  have HB02 : Hid (Below w.heap.size w w2) := HW1.out.trans (grown_below g2 (Nat.le_refl _) HW1.out.size)
  have HE2 : Hid (Blk w2 ge 73 (encTo a 32 [.int .i32 p])) := HE.out.below HB02.out HE.out.lt
  have HBg : Hid (Blm w2 g t cur) := HB.out.below HB02.out hgl
  clear b2 l2 q2 g2
  have hdd := decode32_any ge g o od m mc N w.heap.size 0 t a p (some ⟨w.heap.size, 0, none⟩) (strip src) cur w2 HE2.out HV.out.1 hp1 hp2 hegn HBg.out HD.out hfit hmc HMX.out hroom (fun _ => rfl) HRS2.out hstr (by unfold maxLen; omega)
  obtain ⟨l, hl'⟩ : ∃ l, l = (strip src).length := ⟨_, rfl⟩
  have hdec : dec32 a p src = octDec a p l (strip src) := by rw [hl']; rfl
  rw [← hl'] at hdd hstr ⊢
  have HDEC := Lib.hid hdec
  clear hl' hdec hroom
  go_wp2_with fail
  refine hdd.mono ?_
  rintro e w3 ⟨fin, rfl, hwr⟩
  have HWR : Hid (Wr32 g o t cur w (octDec a p l (strip src)).1 w3) := by
    obtain ⟨c3, r1, r2, r3, r4, r5⟩ := hwr
    exact ⟨c3, r1, r2, r3, r4, grown_trans (below_grown HB02.out) r5⟩
  clear hdd hwr
  generalize octDec a p l (strip src) = R at *
  obtain ⟨bs, err⟩ := R
  simp only at HWR ⊢
  go_wp2
  go_ret2
  rw [HDEC.out]
  exact ⟨rfl, HWR.out⟩

/-- The bytes at the beginning of a copy of d. -/
theorem wr32_bytes {g : Nat} {t : TypeId} {cur : List Value} {w wr : World} {ds d : List UInt8} {cap : Nat} (htk : cur.take d.length = Lib.byteCells d) (h : Wr32 g 0 t cur w ds wr) (hds : ds.length ≤ d.length) (hc : d.length ≤ cap) (hm : cap ≤ maxLen) :
    Bys wr (.slice (some ⟨g, 0, none⟩) d.length cap) (ds ++ d.drop ds.length) := by
  obtain ⟨cur', b1, b2, b3, b4, b5⟩ := h
  have hlen : (ds ++ d.drop ds.length).length = d.length := by rw [List.length_append, List.length_drop]; omega
  have := Bys.of_blm b1 0 cap (ds ++ d.drop ds.length) (by rw [hlen]; exact hc) hm (fun j x hj => by
    rcases Nat.lt_or_ge j ds.length with hlt | hge
    · rw [List.getElem?_append_left hlt] at hj
      exact b3 j x hj
    · rw [List.getElem?_append_right hge, List.getElem?_drop, show ds.length + (j - ds.length) = j by omega] at hj
      rw [b4 _ (Or.inr (by omega)), Nat.zero_add]
      have hlt : j < d.length := (List.getElem?_eq_some_iff.1 hj).1
      have h5 := byteCells_at _ j x hj
      rw [← htk, List.getElem?_take, if_pos hlt] at h5
      exact h5)
  rw [hlen] at this
  exact this

theorem wr32_app {g : Nat} {t : TypeId} {cur : List Value} {w wr : World} {ds d : List UInt8} {cap : Nat} (htk : cur.take d.length = Lib.byteCells d) (h : Wr32 g d.length t cur w ds wr) (hc : d.length + ds.length ≤ cap) (hcm : cap ≤ maxLen) :
    Bys wr (.slice (some ⟨g, 0, none⟩) (d.length + ds.length) cap) (d ++ ds) := by
  obtain ⟨cur', b1, b2, b3, b4, b5⟩ := h
  have := Bys.of_blm b1 0 cap (d ++ ds) (by rw [List.length_append]; exact hc) hcm (fun j x hj => by
    rw [Nat.zero_add]
    rcases Nat.lt_or_ge j d.length with hlt | hge
    · rw [List.getElem?_append_left hlt] at hj
      rw [b4 j (Or.inl hlt)]
      have h5 := byteCells_at _ j x hj
      rw [← htk, List.getElem?_take, if_pos hlt] at h5
      exact h5
    · rw [List.getElem?_append_right hge] at hj
      have := b3 _ x hj
      rw [show d.length + (j - d.length) = j by omega] at this
      exact this)
  rw [List.length_append] at this
  exact this

/-- What DecodeInto32 leaves: a copy of dst with the bytes at its beginning. -/
def Into32Post (R : List UInt8 × Option Int) (d : List UInt8) (w : World) (e : Ending) (w' : World) : Prop :=
  ∃ g c, e = .returned (.tuple #[.slice (some ⟨g, 0, none⟩) d.length c, .int .i64 (R.1.length : Int), .bool (okOf R.2), .int .i64 (numOf R.2)]) ∧ Bys w' (.slice (some ⟨g, 0, none⟩) d.length c) (R.1 ++ d.drop R.1.length) ∧ Below w.heap.size w w'

set_option maxHeartbeats 1000000 in
theorem decodeInto32I (s : ByteArray) (p : Int) (vd : Value) (d : List UInt8) (v : Value) (l : List UInt8) (w : World) (hv : validP 5 s.data.toList p) (hdb : Bys w vd d) (hd : d.length ≤ 140737488351232) (hs : Bys w v l) (hr1 : (dec32 s.data.toList p l).1.length ≤ d.length) (hl : l.length ≤ 281474976710656) :
    Calls Try.prog 14 #[.string s, .int .i64 p, vd, v] w (Into32Post (dec32 s.data.toList p l) d w) := by
  have HV := Lib.hid hv
  have HS := Lib.hid hs
  have HDB := Lib.hid hdb
  obtain ⟨A, c, rfl, hc, hcm, _⟩ := hs
  have HCM := Lib.hid hcm
  clear hv hdb hcm
  have HO : Hid (Own (w.alloc (.cells #[] 5)) w.heap.size w.heap.size 0 5 []) := owns_new _ (Nat.le_refl _)
  have HW1 : Hid (Below w.heap.size w (w.alloc (.cells #[] 5))) := (Below.refl _ _).alloc (Nat.le_refl _) _
  have HD1 : Hid (Bys (w.alloc (.cells #[] 5)) vd d) := HDB.out.below HW1.out
  go_enter Try.func14, Try.ntmps14
  go_wp2_with ((with_reducible refine wpList_append_bys rfl (.tmp 17) (.tmp 18) 22 rfl w.heap.size 5 Try.underlying22 byteInfo w.heap.size 0 [] HO.out ?_ _ d HD1.out ?_ ?_ ?_ ?_); rfl; rfl; (simp; omega); (simp); intro g' cap' w2 hO2 hg2)
  have hgg : w.heap.size ≤ g' := hO2.out.1
  have HB2 : Hid (Below w.heap.size w w2) := HW1.out.trans (grown_below hg2.out (Nat.le_refl _) HW1.out.size)
  simp only [List.nil_append] at hO2
  refine (encoding32 s p _ HV.out).mono ?_
  rintro e w3 ⟨ge, rfl, hge, hb, hw⟩
  have HB := Lib.hid hb
  have HW := Lib.hid hw
  clear hb hw
  obtain ⟨_, h1, h2, cur, hbl, hlc, htk⟩ := hO2.out.keep HW.out
  have hgl : Hid (g' < w2.heap.size) := by obtain ⟨_, _, _, _, hq, _⟩ := hO2.out; exact hq.lt
  have hne : ge ≠ g' := by have := hgl.out; omega
  have HRD : Hid (Rd w3 g' A l) := by
    have h3 : Rd w g' A l := HS.out.rd hgg
    exact (h3.below HB2.out).below HW.out
  have HBL := Lib.hid hbl
  have HTK := Lib.hid htk
  have HLC := Lib.hid hlc
  have HH2 := Lib.hid h2
  clear hbl htk hlc h2
  go_wp2_with fail
  refine (decodeD32 ge g' 0 0 d.length cap' c 5 _ p A l cur w3 HB.out HV.out hne HBL.out.blm (fun _ => rfl) (by have := HLC.out; omega) h1 HH2.out hr1 HRD.out hc HCM.out hl).mono ?_
  rintro e w4 ⟨rfl, hwr⟩
  have HFI : Hid (Below w.heap.size w w4) := by obtain ⟨_, _, _, _, _, u5⟩ := hwr; exact (below_trans' HB2.out HW.out).trans (grown_below u5 hgg (Nat.le_trans HB2.out.size HW.out.size))
  have HBY := Lib.hid (wr32_bytes HTK.out hwr hr1 h1 HH2.out)
  clear hwr
  generalize dec32 s.data.toList p l = R at *
  obtain ⟨bs, err⟩ := R
  simp only at HBY hr1 ⊢
  go_wp2_with fail
  refine (end32_any _ _).mono ?_
  rintro e w5 ⟨rfl, rfl⟩
  go_wp2
  refine bodyPost_ret (v := .tuple #[.slice (some ⟨g', 0, none⟩) d.length cap', .int .i64 (bs.length : Int), .bool (okOf err), .int .i64 (numOf err)]) (by simp [results, Try.results14, go_sem]) rfl ⟨_, _, rfl, HBY.out, HFI.out⟩

theorem trim_room5 {a : List UInt8} {p : Int} (hv : validP 5 a p) (l : List UInt8) : (dec32 a p l).1.length ≤ roomC5 (trimN p l l.length) := by
  have h1 := (oct_room a p (strip l).length (strip l).length (strip l) (Nat.le_refl _)).2
  have h2 := trimN_count a p l (fun c hc => pad_not_letter hv c hc) l.length (Nat.le_refl _)
  rw [List.take_length] at h2
  have h3 : (strip l).countP (isL a) ≤ l.countP (isL a) := List.Sublist.countP_le List.filter_sublist
  exact Nat.le_trans h1 (roomC5_mono _ _ (Nat.le_trans h3 h2))
theorem roomC5_small (n : Nat) : roomC5 n ≤ n := by unfold roomC5; omega
theorem decLen32_none (n : Nat) : decLen32 (-1) (n : Int) = ((roomC5 n : Nat) : Int) := by
  unfold decLen32 roomC5
  rw [if_pos rfl]
  omega

set_option maxHeartbeats 1000000 in
set_option maxRecDepth 100000 in
theorem appendDecode32 (ge B g cap : Nat) (a : List UInt8) (p : Int) (d : List UInt8) (v : Value) (l : List UInt8) (w : World)
    (he : Blk w ge 73 (encTo a 32 [.int .i32 p])) (hv : validP 5 a p)
    (ho : Own w B g cap 5 d) (hB : B ≤ w.heap.size) (hgne : ge ≠ g) (hs : Bys w v l) (hsg : Rd w g (addrOf v) l) (hd : d.length + l.length ≤ 225179981368000) :
    Calls Try.prog 36 #[.pointer (some ⟨ge, 0, none⟩), .slice (some ⟨g, 0, none⟩) d.length cap, v] w (AppPost 67 (dec32 a p l) d B w) := by
  have HE := Lib.hid he
  have HV := Lib.hid hv
  have HS := Lib.hid hs
  have HO := Lib.hid ho
  have hp1 := hv.2.1
  have hp2 := hv.2.2.1
  have hr1 := trim_room5 hv l
  have hRs := roomC5_small (trimN p l l.length)
  have hTs := trimN_le p l l.length
  have HX := Lib.hid (decLen32_none (trimN p l l.length))
  have hbp : Hid (w.cell? ⟨ge, 288, none⟩ = some (.int .i32 p)) := by
    show _ = _
    rw [he.cell, show 288 = 32 + 256 + 0 from rfl, encTo_tail a 32 _ 32 0 hv.1]
    rfl
  obtain ⟨A, c, rfl, hc, hcm, hcell⟩ := hs
  have HCELL := Lib.hid hcell
  have HSG : Hid (Rd w g A l) := hsg
  have hBg := ho.1
  have hcap := ho.2.1
  have hcapm := ho.2.2.1
  clear he hv ho hsg hcell
  obtain ⟨T, hTe⟩ : ∃ T, T = trimN p l l.length := ⟨_, rfl⟩
  rw [← hTe] at hr1 hRs hTs HX
  have HTe := Lib.hid hTe
  clear hTe
  obtain ⟨N, hNe⟩ : ∃ N, N = roomC5 T := ⟨_, rfl⟩
  rw [← hNe] at hr1 hRs HX
  clear hNe
  have HCM := Lib.hid hcm
  have HCPM := Lib.hid hcapm
  unfold maxLen at hcm hcapm
  -- what is left behind Grow, for both of its ways
  have main : ∀ (g' cap' : Nat) (w1 : World), Own w1 B g' cap' 5 d → d.length + N ≤ cap' → Below w.heap.size w w1 → ge ≠ g' → Rd w1 g' A l → ∀ od : Nat, (0 < N → od = d.length) →
      Calls Try.prog 29 #[.pointer (some ⟨ge, 0, none⟩), .slice (some ⟨g', od, none⟩) N (cap' - d.length), .slice A l.length c] w1 fun e w' => e = .returned (.tuple #[.int .i64 ((dec32 a p l).1.length : Int), errV 67 (dec32 a p l).2]) ∧ Hid (Bys w' (.slice (some ⟨g', 0, none⟩) (d.length + (dec32 a p l).1.length) cap') (d ++ (dec32 a p l).1)) ∧ Hid (w1.grownBy w' (some g')) := by
    intro g' cap' w1 hO hcp hbw hne hrd od hD
    obtain ⟨_, h1, h2, cur, hb, hlc, htk⟩ := hO
    refine (decodeD32 ge g' d.length od N (cap' - d.length) c 5 a p A l cur w1 (HE.out.below hbw HE.out.lt) HV.out hne hb.blm hD (by omega) (by omega) (by omega) hr1 hrd hc HCM.out (by omega)).mono ?_
    rintro e w2 ⟨rfl, hwr⟩
    refine ⟨rfl, wr32_app htk hwr (by omega) h2, ?_⟩
    obtain ⟨_, _, _, _, _, u5⟩ := hwr
    exact u5
  have MAIN := Lib.hid main
  clear main
  have hgE : Hid (ge < w.heap.size) := HE.out.lt
  generalize hR : dec32 a p l = R at *
  obtain ⟨bs, err⟩ := R
  simp only at hr1 MAIN
  have HR := Lib.hid hR
  clear hR
  go_enter Try.func36, Try.ntmps36
  go_upto_block 0 with fail
  go_cut [8] (fun s8 wx => ∃ q : Nat, s8 = .int .i64 (T : Int) ∧ wx = w.drewN q)
  case first =>
    go_wp2_with fail
    go_loopw [8] (fun n wr => ∃ k q : Nat, k ≤ l.length ∧ n = .int .i64 (k : Int) ∧ Hid (trimN p l l.length = trimN p l k) ∧ wr = w.drewN q) (fun n _ => (intOf n).toNat)
    case atStart => exact ⟨l.length, 0, Nat.le_refl _, rfl, rfl, rfl⟩
    case round =>
      obtain ⟨k, q, hk, rfl, htr, rfl⟩ := hrel
      rcases Nat.eq_zero_or_pos k with h0 | h0
      · subst h0
        have HT0 : Hid (T = 0) := by show _ = _; rw [HTe.out, htr.out]; rfl
        have hz : decide ((0 : Int) < ((0 : Nat) : Int)) = false := by simp
        go_wp2_with fail
        go_quiet (fail)
        go_wp2
        go_meet
        exact ⟨_, by rw [HT0.out], World.drewN_drewN ..⟩
      · obtain ⟨j, rfl⟩ : ∃ j, k = j + 1 := ⟨k - 1, by omega⟩
        obtain ⟨cb, hcb⟩ : ∃ cb, l[j]? = some cb := ⟨_, List.getElem?_eq_getElem (by omega)⟩
        obtain ⟨b, off, hA, hbs, hcs⟩ := HCELL.out (by omega)
        subst hA
        have hcell := hcs j cb hcb
        have hpc := hbp.out
        have hg : l.getD j 0 = cb := by rw [List.getD_eq_getElem?_getD, hcb]; rfl
        have hstep : trimN p l (j + 1) = if (cb.toNat : Int) = p then trimN p l j else j + 1 := by rw [trimN, hg]
        have HSTEP := Lib.hid hstep
        have hcb8 := cb.toNat_lt
        clear hcs hcb hg hstep h0
        by_cases hpp : (cb.toNat : Int) = p
        · have HPP := Lib.hid hpp
          have hpb : ((cb.toNat : Int) == p) = true := by simpa using hpp
          clear hpp
          go_wp2_with fail
          go_quiet (fail)
          go_wp2
          go_roundw
          case rel => exact ⟨j, _, by omega, by go_num, by rw [HSTEP.out, if_pos HPP.out] at htr; exact htr, rfl⟩
          case measure => simp [intOf]
        · have hpb : ((cb.toNat : Int) == p) = false := by simpa using hpp
          have HT0 : Hid (T = j + 1) := by show _ = _; rw [HTe.out, htr.out, HSTEP.out, if_neg hpp]
          clear hpp
          go_wp2_with fail
          go_quiet (fail)
          go_wp2
          go_meet
          exact ⟨_, by rw [HT0.out], World.drewN_drewN ..⟩
  case rest =>
    obtain ⟨q, rfl, rfl⟩ := hcut
    have HE' : Hid (Blk (w.drewN q) ge 73 (encTo a 32 [.int .i32 p])) := HE.out.drewN q
    have HO' : Hid (Own (w.drewN q) B g cap 5 d) := HO.out
    have HSG' : Hid (Rd (w.drewN q) g A l) := HSG.out
    have HBq : Hid (Below w.heap.size w (w.drewN q)) := below_drewN (Below.refl _ w) q
    by_cases hroom : d.length + N ≤ cap
    · rcases (by omega : cap = d.length ∨ d.length < cap) with hce | hce
      · subst hce
        have HN0 : Hid (N = 0) := by show _ = _; omega
        go_wp2_with fail
        refine (decLen32_any (-1) (T : Int) _ (by omega) (by omega)).mono ?_
        rintro e w1 ⟨rfl, rfl⟩
        rw [HX.out]
        go_wp2_with fail
        refine (grow_room B g d.length N d _ HO'.out hroom).mono ?_
        rintro e w1 ⟨rfl, rfl⟩
        go_wp2_with fail
        have M := MAIN.out g d.length (w.drewN q) HO'.out hroom HBq.out hgne HSG'.out 0 (fun h => by have := HN0.out; omega)
        rw [Nat.sub_self] at M
        refine M.mono ?_
        rintro e w2 ⟨rfl, hb2, hg2⟩
        clear M
        go_wp2
        go_ret2
        exact ⟨_, _, rfl, hb2.out, (below_drewN (Below.refl B w) q).trans (grown_below hg2.out hBg hB)⟩
      · go_wp2_with fail
        refine (decLen32_any (-1) (T : Int) _ (by omega) (by omega)).mono ?_
        rintro e w1 ⟨rfl, rfl⟩
        rw [HX.out]
        go_wp2_with fail
        refine (grow_room B g cap N d _ HO'.out hroom).mono ?_
        rintro e w1 ⟨rfl, rfl⟩
        go_wp2_with fail
        refine (MAIN.out g cap (w.drewN q) HO'.out hroom HBq.out hgne HSG'.out d.length (fun _ => rfl)).mono ?_
        rintro e w2 ⟨rfl, hb2, hg2⟩
        go_wp2
        go_ret2
        exact ⟨_, _, rfl, hb2.out, (below_drewN (Below.refl B w) q).trans (grown_below hg2.out hBg hB)⟩
    · go_wp2_with fail
      refine (decLen32_any (-1) (T : Int) _ (by omega) (by omega)).mono ?_
      rintro e w1 ⟨rfl, rfl⟩
      rw [HX.out]
      go_wp2_with fail
      refine (grow_grow B g cap N d _ HO'.out hB (by omega) (by omega)).mono ?_
      rintro e w1 ⟨g', cap', rfl, hO', hcp, hbw, hg'⟩
      have HO1 := Lib.hid hO'
      have HBW : Hid (Below w.heap.size w w1) := HBq.out.trans hbw
      have hcp2 := hO'.2.2.1
      unfold maxLen at hcp2
      have hlt' : d.length < cap' := by omega
      have hg2' : w.heap.size ≤ g' := hg'
      have hne' : ge ≠ g' := by have := HE.out.lt; omega
      clear hO' hbw hg'
      have HRD : Hid (Rd w1 g' A l) := by
        have h1 : Rd w g' A l := HS.out.rd hg2'
        exact h1.below HBW.out
      go_wp2_with fail
      refine (MAIN.out g' cap' w1 HO1.out hcp HBW.out hne' HRD.out d.length (fun _ => rfl)).mono ?_
      rintro e w2 ⟨rfl, hb2, hg2⟩
      go_wp2
      go_ret2
      exact ⟨_, _, rfl, hb2.out, (HBW.out.mono hB).trans (grown_below hg2.out (by omega) (Nat.le_trans hB HBW.out.size))⟩

set_option maxHeartbeats 1000000 in
theorem appendDecode32I (s : ByteArray) (p : Int) (vd : Value) (d : List UInt8) (v : Value) (l : List UInt8) (w : World) (hv : validP 5 s.data.toList p) (hdb : Bys w vd d) (hs : Bys w v l) (hd : d.length + l.length ≤ 225179981368000) :
    Calls Try.prog 22 #[.string s, .int .i64 p, vd, v] w (AppDecPost (dec32 s.data.toList p l) d w) := by
  have HV := Lib.hid hv
  have HS := Lib.hid hs
  have HD := Lib.hid hdb
  clear hv hs hdb
  go_enter Try.func22, Try.ntmps22
  go_wp2_with fail
  refine (encoding32 s p _ HV.out).mono ?_
  rintro e w1 ⟨ge, rfl, hge, hb, hw⟩
  have HB := Lib.hid hb
  have HW := Lib.hid hw
  clear hb hw
  have HO : Hid (Own (w1.alloc (.cells #[] 5)) w1.heap.size w1.heap.size 0 5 []) := owns_new _ (Nat.le_refl _)
  have HW1 : Hid (Below w1.heap.size w1 (w1.alloc (.cells #[] 5))) := (Below.refl _ _).alloc (Nat.le_refl _) _
  have HD1 : Hid (Bys (w1.alloc (.cells #[] 5)) vd d) := HD.out.below (below_trans' HW.out HW1.out)
  go_wp2_with ((with_reducible refine wpList_append_bys rfl (.tmp 19) (.tmp 20) 22 rfl w1.heap.size 5 Try.underlying22 byteInfo w1.heap.size 0 [] HO.out ?_ _ d HD1.out ?_ ?_ ?_ ?_); rfl; rfl; (simp; omega); (simp); intro g' cap' w2 hO2 hg2)
  have hgg : w1.heap.size ≤ g' := hO2.out.1
  have HB2 : Hid (Below w1.heap.size w1 w2) := HW1.out.trans (grown_below hg2.out (Nat.le_refl _) HW1.out.size)
  have HB3 : Hid (Below w.heap.size w w2) := below_trans' HW.out HB2.out
  have hne : ge ≠ g' := by have := HB.out.lt; omega
  simp only [List.nil_append] at hO2
  have HY2 : Hid (Bys w2 v l) := HS.out.below HB3.out
  have HRD : Hid (Rd w2 g' (addrOf v) l) := by
    obtain ⟨A, c, hve, _⟩ := HS.out
    subst hve
    have h1 : Rd w g' A l := HS.out.rd (Nat.le_trans HW.out.size hgg)
    exact h1.below HB3.out
  refine (appendDecode32 ge w1.heap.size g' cap' _ p d v l w2 (HB.out.below HB2.out HB.out.lt) HV.out hO2.out HB2.out.size hne HY2.out HRD.out hd).mono ?_
  rintro e w3 ⟨g3, c3, rfl, hby, hbe⟩
  have HBY := Lib.hid hby
  have HBE := Lib.hid (HB3.out.trans (hbe.mono HW.out.size))
  clear hby hbe
  generalize dec32 s.data.toList p l = R at *
  obtain ⟨bs, err⟩ := R
  simp only at HBY ⊢
  go_wp2_with fail
  refine (end32_any _ _).mono ?_
  rintro e w5 ⟨rfl, rfl⟩
  go_wp2
  go_ret3
  exact ⟨_, _, rfl, HBY.out, HBE.out⟩

end Go.Proofs.Ytanebcdhjkpnjaa
