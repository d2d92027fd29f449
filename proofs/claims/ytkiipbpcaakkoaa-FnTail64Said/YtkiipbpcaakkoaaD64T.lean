/-
  What lies behind the first loop of base64's Decode: the loop of four letters, and the loop of quanta. Conditions: as in the contract of Decode.
-/
import Derived.Test.YtkiipbpcaakkoaaD64Q
import Derived.Test.YtkiipbpcaakkoaaD64E
namespace Go.Proofs.Ytkiipbpcaakkoaa
open Go.RowKit
set_option linter.unusedVariables false

/-- What stands behind block n of a body. -/
def tailOf (n : Nat) : Code → Option Code
  | .seq (.block k c) b => if k = n then some b else tailOf n b
  | .seq _ b => tailOf n b
  | _ => none

noncomputable def tail0 : Code := ((Try.f34.body.bind (tailOf 0)).getD .skip)

set_option maxHeartbeats 20000000 in
set_option maxRecDepth 1000000 in
theorem decode64_tail (ge g o od m mc c N b off : Nat) (t : TypeId) (a : List UInt8) (p : Int) (st : Bool) (src : List UInt8) (cur : List Value) (w : World)
    (HE : Hid (Blk w ge 74 (encTo a 64 [.int .i32 p, .bool st]))) (HZ : Hid (a.length = 64)) (hp1 : -1 ≤ p) (hp2 : p ≤ 255) (HNL : Hid (∀ c, isNL c = true → isL a c = false)) (HEG : Hid (ge ≠ g))
    (HD : Hid (0 < m → od = o)) (hfit : o + m ≤ cur.length) (hmc : m ≤ mc) (HMX : Hid (mc ≤ maxLen)) (hmx : mc ≤ 2 ^ 63 - 1)
    (HS : Hid (Rd w g (some ⟨b, off, none⟩) src)) (HCS : Hid (∀ j c, src[j]? = some c → w.cell? ⟨b, off + j, none⟩ = some (.int .u8 (c.toNat : Int)))) (hbg : b ≠ g) (HN : Hid (N = src.length)) (hNp : 0 < N) (hc : N ≤ c) (HCX : Hid (c ≤ maxLen)) (hcx : c ≤ 2 ^ 63 - 1)
    (u6 u7 u8 u9 u10 u11 u12 u25 u26 u27 u28 u29 u30 u31 u32 u33 u34 u35 u36 u37 u38 u39 u40 u41 u42 u43 u44 u45 u46 u47 u48 u49 u50 u51 u52 u53 u54 u55 u56 u57 u58 u59 u60 u61 u62 u63 u64 u65 u66 u67 u68 u69 u70 u71 u72 u73 u74 u75 u76 u77 u78 u79 u80 u81 u82 u83 u84 u85 u86 u87 u88 u89 u90 u91 u92 u93 u94 u95 u96 u97 u98 u99 u100 u101 u102 u103 u104 u105 u106 u107 u108 u109 u110 u111 u112 u113 u114 u115 u116 u117 u118 u119 u120 u121 u122 u123 u124 u125 u126 u127 u128 u129 u130 u131 u132 u133 u134 u135 u136 u137 u138 u139 v24 : Value) (wc : World) (hcut : DRel N a p st src m g o t cur w u6 u7 u8 wc) :
    Code.wp Try.prog tail0 (bodyPost Try.prog Try.f34 (DPost 64 (decOf a p st src) g o t cur w)) ⟨((Value.pointer (some ⟨ge, 0, none⟩)) :: (Value.slice (some ⟨g, od, none⟩) m mc) :: (Value.slice (some ⟨b, off, none⟩) N c) :: undef :: undef :: undef :: u6 :: u7 :: u8 :: u9 :: u10 :: u11 :: u12 :: undef :: undef :: undef :: undef :: undef :: (Value.slice (some ⟨b, off, none⟩) N c) :: (Value.int .i64 (N : Int)) :: (Value.bool false) :: (Value.pointer (some ⟨ge, 0, none⟩)) :: (Value.pointer (some ⟨ge, 0, none⟩)) :: (Value.pointer (some ⟨ge, 64, none⟩)) :: v24 :: u25 :: u26 :: u27 :: u28 :: u29 :: u30 :: u31 :: u32 :: u33 :: u34 :: u35 :: u36 :: u37 :: u38 :: u39 :: u40 :: u41 :: u42 :: u43 :: u44 :: u45 :: u46 :: u47 :: u48 :: u49 :: u50 :: u51 :: u52 :: u53 :: u54 :: u55 :: u56 :: u57 :: u58 :: u59 :: u60 :: u61 :: u62 :: u63 :: u64 :: u65 :: u66 :: u67 :: u68 :: u69 :: u70 :: u71 :: u72 :: u73 :: u74 :: u75 :: u76 :: u77 :: u78 :: u79 :: u80 :: u81 :: u82 :: u83 :: u84 :: u85 :: u86 :: u87 :: u88 :: u89 :: u90 :: u91 :: u92 :: u93 :: u94 :: u95 :: u96 :: u97 :: u98 :: u99 :: u100 :: u101 :: u102 :: u103 :: u104 :: u105 :: u106 :: u107 :: u108 :: u109 :: u110 :: u111 :: u112 :: u113 :: u114 :: u115 :: u116 :: u117 :: u118 :: u119 :: u120 :: u121 :: u122 :: u123 :: u124 :: u125 :: u126 :: u127 :: u128 :: u129 :: u130 :: u131 :: u132 :: u133 :: u134 :: u135 :: u136 :: u137 :: u138 :: u139 :: undef :: undef :: undef :: undef :: undef :: undef :: undef :: undef :: undef :: undef :: undef :: undef :: undef :: undef :: undef :: undef :: undef :: undef :: undef :: undef :: undef :: undef :: undef :: undef :: undef :: undef :: undef :: undef :: undef :: undef :: undef :: undef :: undef :: undef :: undef :: undef :: undef :: undef :: undef :: undef :: undef :: undef :: undef :: undef :: undef :: undef :: undef :: undef :: undef :: undef :: undef :: undef :: undef :: undef :: undef :: undef :: undef :: undef :: undef :: undef :: undef :: undef :: undef :: undef :: undef :: undef :: undef :: undef :: undef :: undef :: undef :: undef :: undef :: undef :: undef :: undef :: undef :: undef :: undef :: undef :: undef :: undef :: undef :: undef :: undef :: undef :: undef :: undef :: undef :: undef :: undef :: undef :: undef :: undef :: undef :: undef :: undef :: undef :: undef :: undef :: undef :: undef :: undef :: undef :: undef :: []).toArray, []⟩ wc := by
  conv => arg 2; whnf
  go_upto_block 2 with fail
  go_cut [6, 7, 8] (fun s6 s7 s8 wr => DRel N a p st src m g o t cur w s6 s7 s8 wr)
  case first =>
    go_wp2_with fail
    go_loopw [6, 7, 8] (fun s6 s7 s8 wr => DRel N a p st src m g o t cur w s6 s7 s8 wr) (fun _ _ s8 _ => N - (intOf s8).toNat)
    case atStart => exact hcut
    case round =>
      clear hcut
      obtain ⟨k, n, ds, hk, hn, rfl, rfl, rfl, HDL, HI, HW⟩ := hrel
      by_cases hA : k + 4 ≤ N
      · have b1 : decide ((4 : Int) ≤ (N : Int) - (k : Int)) = true := by rw [decide_eq_true_eq]; omega
        by_cases hB : n + 4 ≤ m
        · have b2 : decide ((4 : Int) ≤ (m : Int) - (n : Int)) = true := by rw [decide_eq_true_eq]; omega
          have hkN : k < N := by omega
          obtain ⟨cur1, w1, w2, w3, w4, w5, w6⟩ := HW.out
          have hEr := HE.out.grown w5 (by simpa using HEG.out)
          obtain ⟨c0, s0⟩ : ∃ x, src[k]? = some x := ⟨_, List.getElem?_eq_getElem (by rw [← HN.out]; omega)⟩
          have d0 : wr.cell? ⟨b, off + k, none⟩ = some (.int .u8 (c0.toNat : Int)) := w5.cell (HCS.out k c0 s0) (by simpa using hbg)
          have t0 : ((c0.toNat : Nat) : Int) < 256 := by have := c0.toNat_lt; omega
          have v0 : (0 : Int) ≤ ((c0.toNat : Nat) : Int) := by omega
          have f0 : wr.cell? ⟨ge, 64 + c0.toNat, none⟩ = some (.int .u8 ((mapN a c0 : Nat) : Int)) := (hEr.cell _).trans ((encTo_map a 64 _ 64 _ HZ.out c0.toNat_lt).trans (by rw [mapN_at HZ.out]))
          obtain ⟨c1, s1⟩ : ∃ x, src[k + 1]? = some x := ⟨_, List.getElem?_eq_getElem (by rw [← HN.out]; omega)⟩
          have d1 : wr.cell? ⟨b, off + k + 1, none⟩ = some (.int .u8 (c1.toNat : Int)) := by have h1 := HCS.out (k + 1) c1 s1; rw [← Nat.add_assoc] at h1; exact w5.cell h1 (by simpa using hbg)
          have t1 : ((c1.toNat : Nat) : Int) < 256 := by have := c1.toNat_lt; omega
          have v1 : (0 : Int) ≤ ((c1.toNat : Nat) : Int) := by omega
          have f1 : wr.cell? ⟨ge, 64 + c1.toNat, none⟩ = some (.int .u8 ((mapN a c1 : Nat) : Int)) := (hEr.cell _).trans ((encTo_map a 64 _ 64 _ HZ.out c1.toNat_lt).trans (by rw [mapN_at HZ.out]))
          obtain ⟨c2, s2⟩ : ∃ x, src[k + 2]? = some x := ⟨_, List.getElem?_eq_getElem (by rw [← HN.out]; omega)⟩
          have d2 : wr.cell? ⟨b, off + k + 2, none⟩ = some (.int .u8 (c2.toNat : Int)) := by have h1 := HCS.out (k + 2) c2 s2; rw [← Nat.add_assoc] at h1; exact w5.cell h1 (by simpa using hbg)
          have t2 : ((c2.toNat : Nat) : Int) < 256 := by have := c2.toNat_lt; omega
          have v2 : (0 : Int) ≤ ((c2.toNat : Nat) : Int) := by omega
          have f2 : wr.cell? ⟨ge, 64 + c2.toNat, none⟩ = some (.int .u8 ((mapN a c2 : Nat) : Int)) := (hEr.cell _).trans ((encTo_map a 64 _ 64 _ HZ.out c2.toNat_lt).trans (by rw [mapN_at HZ.out]))
          obtain ⟨c3, s3⟩ : ∃ x, src[k + 3]? = some x := ⟨_, List.getElem?_eq_getElem (by rw [← HN.out]; omega)⟩
          have d3 : wr.cell? ⟨b, off + k + 3, none⟩ = some (.int .u8 (c3.toNat : Int)) := by have h1 := HCS.out (k + 3) c3 s3; rw [← Nat.add_assoc] at h1; exact w5.cell h1 (by simpa using hbg)
          have t3 : ((c3.toNat : Nat) : Int) < 256 := by have := c3.toNat_lt; omega
          have v3 : (0 : Int) ≤ ((c3.toNat : Nat) : Int) := by omega
          have f3 : wr.cell? ⟨ge, 64 + c3.toNat, none⟩ = some (.int .u8 ((mapN a c3 : Nat) : Int)) := (hEr.cell _).trans ((encTo_map a 64 _ 64 _ HZ.out c3.toNat_lt).trans (by rw [mapN_at HZ.out]))
          have S0 := Lib.hid s0
          have S1 := Lib.hid s1
          have S2 := Lib.hid s2
          have S3 := Lib.hid s3
          clear hEr w1 w2 w3 w4 w5 w6 s0 s1 s2 s3
          obtain ⟨VI, OB, has, hyes, hno⟩ := asm4 HZ.out c0 c1 c2 c3
          have HAS := Lib.hid has
          have HYES := Lib.hid hyes
          have HNO := Lib.hid hno
          clear has hyes hno
          have l0 : mapN a c0 < 256 := mapN_lt (Nat.le_of_eq HZ.out)
          have l1 : mapN a c1 < 256 := mapN_lt (Nat.le_of_eq HZ.out)
          have l2 : mapN a c2 < 256 := mapN_lt (Nat.le_of_eq HZ.out)
          have l3 : mapN a c3 < 256 := mapN_lt (Nat.le_of_eq HZ.out)
          generalize mapN a c0 = x0 at *
          generalize mapN a c1 = x1 at *
          generalize mapN a c2 = x2 at *
          generalize mapN a c3 = x3 at *
          go_wp2
          go_quiet ((go_at_call 39; exact quiet_left' (HAS.out _)))
          clear HAS d0 f0 l0 d1 f1 l1 d2 f2 l2 d3 f3 l3
          by_cases hall : isL a c0 = true ∧ isL a c1 = true ∧ isL a c2 = true ∧ isL a c3 = true
          · obtain ⟨hob, hvi⟩ := HYES.out hall
            subst hob
            obtain ⟨k0, k1, k2, k3⟩ := hall
            have l0 : numL a c0 < 64 := (map_letter k0 HZ.out).2
            have l1 : numL a c1 < 64 := (map_letter k1 HZ.out).2
            have l2 : numL a c2 < 64 := (map_letter k2 HZ.out).2
            have l3 : numL a c3 < 64 := (map_letter k3 HZ.out).2
            have HNI := Lib.hid (HI.out.four c0 c1 c2 c3 S0.out S1.out S2.out S3.out k0 k1 k2 k3)
            clear HYES HNO k0 S0 k1 S1 k2 S2 k3 S3
            generalize numL a c0 = z0 at *
            generalize numL a c1 = z1 at *
            generalize numL a c2 = z2 at *
            generalize numL a c3 = z3 at *
            obtain ⟨V, B0, B1, B2, B3, HAS0, HBS0, hVb, e0, e1, e2, e3, y0, y1, y2, y3⟩ := fast4_facts z0 z1 z2 z3 l0 l1 l2 l3
            rw [← HAS0] at hvi
            subst hvi
            have HBS := Lib.hid HBS0
            have HEV := Lib.hid (And.intro hVb (And.intro e0 (And.intro e1 (And.intro e2 e3))))
            clear HAS0 HBS0 hVb e0 e1 e2 e3
            obtain rfl := HD.out (by omega)
            obtain ⟨cur1, w1, w2, w3, w4, w5, w6⟩ := (HW.out.drewN nq)
            have HP := Lib.hid (put4 g (od + n) (m - n) (mc - n) V B0 B1 B2 B3 t cur1 _ w1 (by omega) (by omega) HEV.out.1 HEV.out.2.1 HEV.out.2.2.1 HEV.out.2.2.2.1 HEV.out.2.2.2.2)
            have W2 := Lib.hid w2
            have W3 := Lib.hid w3
            have W4 := Lib.hid w4
            have W5 := Lib.hid w5
            have W6 := Lib.hid w6
            clear w1 w2 w3 w4 w5 w6
            have hcap : ¬ mc = n := by omega
            go_wp2_with fail
            refine HP.out.mono ?_
            rintro e wp ⟨rfl, p1, p2⟩
            have P1 := Lib.hid p1
            have P2 := Lib.hid p2
            clear p1 p2 HP
            go_wp2
            go_roundw
            case rel =>
              have hf := sets4_facts cur1 (od + n) B0 B1 B2 B3 _ (by have := W2.out; omega) HBS.out y0 y1 y2
              have hwr : Wrote g od t cur w (ds ++ (bytesOf [z0, z1, z2, z3])) wp := Wrote.put4 W2.out W3.out W4.out W5.out W6.out (((((AsOr.refl cur1).set _ _ y0).set _ _ y1).set _ _ y2).set _ _ y3) (by rw [HBS.out]; rfl) P1.out hf.1 (by rw [HDL.out]; exact hf.2.1) (by rw [HDL.out]; exact hf.2.2) P2.out
              exact ⟨k + 4, n + 3, ds ++ (bytesOf [z0, z1, z2, z3]), by omega, by omega, by go_num, rfl, by go_num, (by show _ = _; rw [List.length_append, HDL.out, HBS.out]; rfl), HNI.out, hwr⟩
            case measure => simp [intOf]; omega
          · obtain rfl := HNO.out hall
            clear hall HYES HNO S0 S1 S2 S3
            have HW2 : Hid (Wrote g o t cur w ds (wr.drewN nq)) := HW.out.drewN nq
            obtain ⟨wr2, hwr2⟩ : ∃ w2 : World, w2 = wr.drewN nq := ⟨_, rfl⟩
            rw [← hwr2] at HW2 ⊢
            clear hwr2
            obtain ⟨cur1, w1, w2, w3, w4, w5, w6⟩ := HW2.out
            have hEr := HE.out.grown w5 (by simpa using HEG.out)
            have hSr : Rd wr2 g (some ⟨b, off, none⟩) src := HS.out.grown w5
            have hq := fun (D' : Option Addr) (mc' : Nat) (hm1 : m - n ≤ mc') (hm2 : mc' ≤ maxLen) (hD' : 0 < m - n → D' = some ⟨g, o + n, none⟩) => quantum_any ge g (o + n) (m - n) mc' c k t a p st D' _ src cur1 wr2 hEr HZ.out hp1 hp2 HNL.out HEG.out w1 hD' (by omega) hm1 hm2 (fun k' v err h => by have := HI.out.room (by rw [← HN.out]; exact hkN) k' v err h; rw [HDL.out] at this; exact this) hSr (by rw [← HN.out]; exact hk) (by rw [← HN.out]; exact hc) HCX.out
            rw [← HN.out] at hq
            have HQ := Lib.hid hq
            have W2 := Lib.hid w2
            have W3 := Lib.hid w3
            have W4 := Lib.hid w4
            have W5 := Lib.hid w5
            have W6 := Lib.hid w6
            clear hq hEr hSr w1 w2 w3 w4 w5 w6
            have hod : 0 < m - n → od = o := fun h => HD.out (by omega)
            have HOD := Lib.hid hod
            clear hod
            by_cases hcap : mc = n
            all_goals
              go_wp2_with fail
              refine (HQ.out _ _ (by omega) (by first | exact Nat.zero_le _ | (have := HMX.out; omega)) (fun h => by first | omega | (rw [HOD.out h]))).mono ?_
              intro e wq hqp
              rw [← HDL.out] at hqp
              obtain ⟨he, hwr⟩ := Wrote.quant W2.out W3.out W4.out W5.out W6.out hqp
              have hqa : quantRes st (quant a p src.length [] (src.drop k) k) = quantAt a p st src k := rfl
              rw [HN.out, hqa] at he
              rw [HN.out, hqa] at hwr
              subst he
              have hksi := quantAt_si a p st src k (by rw [← HN.out]; exact hkN)
              have HST := Lib.hid (HI.out.step (by rw [← HN.out]; exact hkN))
              have HSP := Lib.hid (HI.out.stop (by rw [← HN.out]; exact hkN))
              have HBL := Lib.hid (HI.out.room2 (by rw [← HN.out]; exact hkN))
              generalize hqr : quantAt a p st src k = qr at *
              obtain ⟨k', bs, err⟩ := qr
              simp only at hksi hwr HST HSP HBL ⊢
              have HWR := Lib.hid hwr
              obtain ⟨hks1, hks2⟩ := hksi
              rw [← HN.out] at hks2
              have hbl : bs.length ≤ m - n := by have := HBL.out; rw [HDL.out] at this; exact this
              clear hwr hqr hqp hqa HQ W2 W3 W4 W5 W6 HBL
              cases err with
              | some er =>
                have HFI := Lib.hid (HSP.out er rfl)
                clear HST HSP
                simp only [errV]
                go_wp2
                go_ret2
                rw [HFI.out]
                refine ⟨?_, HWR.out⟩
                have := HDL.out
                simp only [List.length_append, errV, this]
                go_num
              | none =>
                have HNI := Lib.hid (HST.out rfl)
                clear HST HSP
                simp only [errV]
                go_wp2
                go_roundw
                case rel => exact ⟨k', n + bs.length, ds ++ bs, hks2, by omega, by go_num, rfl, rfl, (by show _ = _; rw [List.length_append, HDL.out]), HNI, HWR⟩
                case measure => simp [intOf]; omega
        · have b2 : decide ((4 : Int) ≤ (m : Int) - (n : Int)) = false := by rw [decide_eq_false_iff_not]; omega
          go_wp2
          go_meet
          exact ⟨k, n, ds, hk, hn, rfl, rfl, rfl, HDL, HI, HW⟩
      · have b1 : decide ((4 : Int) ≤ (N : Int) - (k : Int)) = false := by rw [decide_eq_false_iff_not]; omega
        go_wp2
        go_meet
        exact ⟨k, n, ds, hk, hn, rfl, rfl, rfl, HDL, HI, HW⟩
  case rest =>
    go_wp2_with fail
    go_loopw [6, 7, 8] (fun s6 s7 s8 wr => DRel N a p st src m g o t cur w s6 s7 s8 wr) (fun _ _ s8 _ => N - (intOf s8).toNat)
    case atStart => exact hcut
    case round =>
      clear hcut
      obtain ⟨k, n, ds, hk, hn, rfl, rfl, rfl, HDL, HI, HW⟩ := hrel
      by_cases hkN : k < N
      · skip
        obtain ⟨cur1, w1, w2, w3, w4, w5, w6⟩ := HW.out
        have hEr := HE.out.grown w5 (by simpa using HEG.out)
        have hSr : Rd wr g (some ⟨b, off, none⟩) src := HS.out.grown w5
        have hq := fun (D' : Option Addr) (mc' : Nat) (hm1 : m - n ≤ mc') (hm2 : mc' ≤ maxLen) (hD' : 0 < m - n → D' = some ⟨g, o + n, none⟩) => quantum_any ge g (o + n) (m - n) mc' c k t a p st D' _ src cur1 wr hEr HZ.out hp1 hp2 HNL.out HEG.out w1 hD' (by omega) hm1 hm2 (fun k' v err h => by have := HI.out.room (by rw [← HN.out]; exact hkN) k' v err h; rw [HDL.out] at this; exact this) hSr (by rw [← HN.out]; exact hk) (by rw [← HN.out]; exact hc) HCX.out
        rw [← HN.out] at hq
        have HQ := Lib.hid hq
        have W2 := Lib.hid w2
        have W3 := Lib.hid w3
        have W4 := Lib.hid w4
        have W5 := Lib.hid w5
        have W6 := Lib.hid w6
        clear hq hEr hSr w1 w2 w3 w4 w5 w6
        have hod : 0 < m - n → od = o := fun h => HD.out (by omega)
        have HOD := Lib.hid hod
        clear hod
        by_cases hcap : mc = n
        all_goals
          go_wp2_with fail
          refine (HQ.out _ _ (by omega) (by first | exact Nat.zero_le _ | (have := HMX.out; omega)) (fun h => by first | omega | (rw [HOD.out h]))).mono ?_
          intro e wq hqp
          rw [← HDL.out] at hqp
          obtain ⟨he, hwr⟩ := Wrote.quant W2.out W3.out W4.out W5.out W6.out hqp
          have hqa : quantRes st (quant a p src.length [] (src.drop k) k) = quantAt a p st src k := rfl
          rw [HN.out, hqa] at he
          rw [HN.out, hqa] at hwr
          subst he
          have hksi := quantAt_si a p st src k (by rw [← HN.out]; exact hkN)
          have HST := Lib.hid (HI.out.step (by rw [← HN.out]; exact hkN))
          have HSP := Lib.hid (HI.out.stop (by rw [← HN.out]; exact hkN))
          have HBL := Lib.hid (HI.out.room2 (by rw [← HN.out]; exact hkN))
          generalize hqr : quantAt a p st src k = qr at *
          obtain ⟨k', bs, err⟩ := qr
          simp only at hksi hwr HST HSP HBL ⊢
          have HWR := Lib.hid hwr
          obtain ⟨hks1, hks2⟩ := hksi
          rw [← HN.out] at hks2
          have hbl : bs.length ≤ m - n := by have := HBL.out; rw [HDL.out] at this; exact this
          clear hwr hqr hqp hqa HQ W2 W3 W4 W5 W6 HBL
          cases err with
          | some er =>
            have HFI := Lib.hid (HSP.out er rfl)
            clear HST HSP
            simp only [errV]
            go_wp2
            go_ret2
            rw [HFI.out]
            refine ⟨?_, HWR.out⟩
            have := HDL.out
            simp only [List.length_append, errV, this]
            go_num
          | none =>
            have HNI := Lib.hid (HST.out rfl)
            clear HST HSP
            simp only [errV]
            go_wp2
            go_roundw
            case rel => exact ⟨k', n + bs.length, ds ++ bs, hks2, by omega, by go_num, rfl, rfl, (by show _ = _; rw [List.length_append, HDL.out]), HNI, HWR⟩
            case measure => simp [intOf]; omega
      · obtain rfl : k = N := by omega
        have HFI := Lib.hid (HI.out.fin (by rw [← HN.out]; exact Nat.le_refl _))
        go_wp2
        go_ret2
        rw [HFI.out]
        refine ⟨?_, HW.out⟩
        simp only [HDL.out, errV]
        rfl

end Go.Proofs.Ytkiipbpcaakkoaa
