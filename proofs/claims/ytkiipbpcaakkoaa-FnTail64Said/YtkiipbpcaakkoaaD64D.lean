/-
  The contract of base64's Decode: it returns what the plain decoder says, and writes its bytes to the beginning of dst, and nothing farther than two bytes behind them. Conditions: dst has room for the bytes and lies apart from src.
-/
import Derived.Test.YtkiipbpcaakkoaaD64T
namespace Go.Proofs.Ytkiipbpcaakkoaa
open Go.RowKit
set_option linter.unusedVariables false

set_option maxHeartbeats 20000000 in
set_option maxRecDepth 1000000 in
theorem decode64_any (ge g o od m mc c : Nat) (t : TypeId) (a : List UInt8) (p : Int) (st : Bool) (A : Option Addr) (src : List UInt8) (cur : List Value) (w : World)
    (he : Blk w ge 74 (encTo a 64 [.int .i32 p, .bool st])) (hz : a.length = 64) (hp1 : -1 ≤ p) (hp2 : p ≤ 255) (hnl : ∀ c, isNL c = true → isL a c = false) (hegn : ge ≠ g)
    (hb : Blk w g t cur) (hD : 0 < m → od = o) (hfit : o + m ≤ cur.length) (hmc : m ≤ mc) (hmx : mc ≤ maxLen)
    (hroom : (decOf a p false src).1.length ≤ m)
    (hs : Rd w g A src) (hc : src.length ≤ c) (hcx : c ≤ maxLen) :
    Calls Try.prog 34 #[.pointer (some ⟨ge, 0, none⟩), .slice (some ⟨g, od, none⟩) m mc, .slice A src.length c] w (DPost 64 (decOf a p st src) g o t cur w) := by
  have HMX := Lib.hid hmx
  have HCX := Lib.hid hcx
  unfold maxLen at hmx hcx
  have HE := Lib.hid he
  have HZ := Lib.hid hz
  have HB := Lib.hid hb
  have HD := Lib.hid hD
  have HS := Lib.hid hs
  have HNL := Lib.hid hnl
  have HRM := Lib.hid hroom
  have HEG := Lib.hid hegn
  have hce : (encTo a 64 [.int .i32 p, .bool st]).length = 322 := by rw [encTo_length, hz]; rfl
  have HCE := Lib.hid hce
  clear he hz hb hD hs hnl hroom hce hegn
  by_cases hl : src.length = 0
  · obtain rfl : src = [] := List.eq_nil_of_length_eq_zero hl
    go_enter Try.func34, Try.ntmps34
    go_wp2
    go_ret2
    have e : decOf a p st [] = ([], none) := by unfold decOf; rw [decFrom_end _ _ _ _ _ (by simp)]
    rw [e]
    exact ⟨rfl, Wrote.start HB.out⟩
  · have hl0 : (((src.length : Nat) : Int) == 0) = false := by simpa using hl
    have HLP : Hid (0 < src.length) := by show 0 < _; omega
    clear hl
    obtain ⟨N, hN⟩ : ∃ N, N = src.length := ⟨_, rfl⟩
    rw [← hN] at hc hl0 ⊢
    have HN := Lib.hid hN
    have hNp : 0 < N := by rw [HN.out]; exact HLP.out
    clear hN
    obtain ⟨b, off, hA, hbg, hcs⟩ := HS.out HLP.out
    subst hA
    have HCS := Lib.hid hcs
    clear hcs
    go_enter Try.func34, Try.ntmps34
    go_upto_block 0 with ((with_reducible refine wpList_load_arr rfl 67 _ rfl ge 64 256 _ _ HE.out _ Try.underlying67 arr256 ?_ ?_ ?_); (rw [HCE.out]; omega); rfl; intro v24)

    go_cut [6, 7, 8] (fun s6 s7 s8 wr => DRel N a p st src m g o t cur w s6 s7 s8 wr)
    case first =>
      go_wp2_with fail
      go_loopw [6, 7, 8] (fun s6 s7 s8 wr => DRel N a p st src m g o t cur w s6 s7 s8 wr) (fun _ _ s8 _ => N - (intOf s8).toNat)
      case atStart => exact ⟨0, 0, [], Nat.zero_le _, Nat.zero_le _, rfl, rfl, rfl, rfl, DInv.start HRM.out, Wrote.start HB.out⟩
      case round =>
        obtain ⟨k, n, ds, hk, hn, rfl, rfl, rfl, HDL, HI, HW⟩ := hrel
        by_cases hA : k + 8 ≤ N
        · have b1 : decide ((8 : Int) ≤ (N : Int) - (k : Int)) = true := by rw [decide_eq_true_eq]; omega
          by_cases hB : n + 8 ≤ m
          · have b2 : decide ((8 : Int) ≤ (m : Int) - (n : Int)) = true := by rw [decide_eq_true_eq]; omega
            have hkN : k < N := by omega
            obtain ⟨cur1, w1, w2, w3, w4, w5, w6⟩ := HW.out
            have hEr := HE.out.grown w5 (by simpa using HEG.out)
            obtain ⟨c0, s0⟩ : ∃ x, src[k]? = some x := ⟨_, List.getElem?_eq_getElem (by rw [← HN.out]; omega)⟩
            have d0 : wr.cell? ⟨b, off + k, none⟩ = some (.int .u8 (c0.toNat : Int)) := w5.cell (HCS.out k c0 s0) (by simpa using hbg)
            have t0 : ((c0.toNat : Nat) : Int) < 256 := by have := c0.toNat_lt; omega
            have v0 : (0 : Int) ≤ ((c0.toNat : Nat) : Int) := by omega
            have f0 : wr.cell? ⟨ge, 64 + c0.toNat, none⟩ = some (.int .u8 ((mapN a c0 : Nat) : Int)) := (hEr.cell _).trans ((encTo_map a 64 _ 64 _ HZ.out c0.toNat_lt).trans (by rw [mapN_at HZ.out]))
            obtain ⟨c1, s1⟩ : ∃ x, src[k + 1]? = some x := ⟨_, List.getElem?_eq_getElem (by rw [← HN.out]; omega)⟩
            have d1 : wr.cell? ⟨b, off + k + 1, none⟩ = some (.int .u8 (c1.toNat : Int)) := by have h1 := HCS.out (k + 1) c1 s1; rw [← Nat.add_assoc] at h1; exact w5.cell h1 (by simpa using hbg)
            have t1 : ((c1.toNat : Nat) : Int) < 256 := by have := c1.toNat_lt; omega
            have v1 : (0 : Int) ≤ ((c1.toNat : Nat) : Int) := by omega
            have f1 : wr.cell? ⟨ge, 64 + c1.toNat, none⟩ = some (.int .u8 ((mapN a c1 : Nat) : Int)) := (hEr.cell _).trans ((encTo_map a 64 _ 64 _ HZ.out c1.toNat_lt).trans (by rw [mapN_at HZ.out]))
            obtain ⟨c2, s2⟩ : ∃ x, src[k + 2]? = some x := ⟨_, List.getElem?_eq_getElem (by rw [← HN.out]; omega)⟩
            have d2 : wr.cell? ⟨b, off + k + 2, none⟩ = some (.int .u8 (c2.toNat : Int)) := by have h1 := HCS.out (k + 2) c2 s2; rw [← Nat.add_assoc] at h1; exact w5.cell h1 (by simpa using hbg)
            have t2 : ((c2.toNat : Nat) : Int) < 256 := by have := c2.toNat_lt; omega
            have v2 : (0 : Int) ≤ ((c2.toNat : Nat) : Int) := by omega
            have f2 : wr.cell? ⟨ge, 64 + c2.toNat, none⟩ = some (.int .u8 ((mapN a c2 : Nat) : Int)) := (hEr.cell _).trans ((encTo_map a 64 _ 64 _ HZ.out c2.toNat_lt).trans (by rw [mapN_at HZ.out]))
            obtain ⟨c3, s3⟩ : ∃ x, src[k + 3]? = some x := ⟨_, List.getElem?_eq_getElem (by rw [← HN.out]; omega)⟩
            have d3 : wr.cell? ⟨b, off + k + 3, none⟩ = some (.int .u8 (c3.toNat : Int)) := by have h1 := HCS.out (k + 3) c3 s3; rw [← Nat.add_assoc] at h1; exact w5.cell h1 (by simpa using hbg)
            have t3 : ((c3.toNat : Nat) : Int) < 256 := by have := c3.toNat_lt; omega
            have v3 : (0 : Int) ≤ ((c3.toNat : Nat) : Int) := by omega
            have f3 : wr.cell? ⟨ge, 64 + c3.toNat, none⟩ = some (.int .u8 ((mapN a c3 : Nat) : Int)) := (hEr.cell _).trans ((encTo_map a 64 _ 64 _ HZ.out c3.toNat_lt).trans (by rw [mapN_at HZ.out]))
            obtain ⟨c4, s4⟩ : ∃ x, src[k + 4]? = some x := ⟨_, List.getElem?_eq_getElem (by rw [← HN.out]; omega)⟩
            have d4 : wr.cell? ⟨b, off + k + 4, none⟩ = some (.int .u8 (c4.toNat : Int)) := by have h1 := HCS.out (k + 4) c4 s4; rw [← Nat.add_assoc] at h1; exact w5.cell h1 (by simpa using hbg)
            have t4 : ((c4.toNat : Nat) : Int) < 256 := by have := c4.toNat_lt; omega
            have v4 : (0 : Int) ≤ ((c4.toNat : Nat) : Int) := by omega
            have f4 : wr.cell? ⟨ge, 64 + c4.toNat, none⟩ = some (.int .u8 ((mapN a c4 : Nat) : Int)) := (hEr.cell _).trans ((encTo_map a 64 _ 64 _ HZ.out c4.toNat_lt).trans (by rw [mapN_at HZ.out]))
            obtain ⟨c5, s5⟩ : ∃ x, src[k + 5]? = some x := ⟨_, List.getElem?_eq_getElem (by rw [← HN.out]; omega)⟩
            have d5 : wr.cell? ⟨b, off + k + 5, none⟩ = some (.int .u8 (c5.toNat : Int)) := by have h1 := HCS.out (k + 5) c5 s5; rw [← Nat.add_assoc] at h1; exact w5.cell h1 (by simpa using hbg)
            have t5 : ((c5.toNat : Nat) : Int) < 256 := by have := c5.toNat_lt; omega
            have v5 : (0 : Int) ≤ ((c5.toNat : Nat) : Int) := by omega
            have f5 : wr.cell? ⟨ge, 64 + c5.toNat, none⟩ = some (.int .u8 ((mapN a c5 : Nat) : Int)) := (hEr.cell _).trans ((encTo_map a 64 _ 64 _ HZ.out c5.toNat_lt).trans (by rw [mapN_at HZ.out]))
            obtain ⟨c6, s6⟩ : ∃ x, src[k + 6]? = some x := ⟨_, List.getElem?_eq_getElem (by rw [← HN.out]; omega)⟩
            have d6 : wr.cell? ⟨b, off + k + 6, none⟩ = some (.int .u8 (c6.toNat : Int)) := by have h1 := HCS.out (k + 6) c6 s6; rw [← Nat.add_assoc] at h1; exact w5.cell h1 (by simpa using hbg)
            have t6 : ((c6.toNat : Nat) : Int) < 256 := by have := c6.toNat_lt; omega
            have v6 : (0 : Int) ≤ ((c6.toNat : Nat) : Int) := by omega
            have f6 : wr.cell? ⟨ge, 64 + c6.toNat, none⟩ = some (.int .u8 ((mapN a c6 : Nat) : Int)) := (hEr.cell _).trans ((encTo_map a 64 _ 64 _ HZ.out c6.toNat_lt).trans (by rw [mapN_at HZ.out]))
            obtain ⟨c7, s7⟩ : ∃ x, src[k + 7]? = some x := ⟨_, List.getElem?_eq_getElem (by rw [← HN.out]; omega)⟩
            have d7 : wr.cell? ⟨b, off + k + 7, none⟩ = some (.int .u8 (c7.toNat : Int)) := by have h1 := HCS.out (k + 7) c7 s7; rw [← Nat.add_assoc] at h1; exact w5.cell h1 (by simpa using hbg)
            have t7 : ((c7.toNat : Nat) : Int) < 256 := by have := c7.toNat_lt; omega
            have v7 : (0 : Int) ≤ ((c7.toNat : Nat) : Int) := by omega
            have f7 : wr.cell? ⟨ge, 64 + c7.toNat, none⟩ = some (.int .u8 ((mapN a c7 : Nat) : Int)) := (hEr.cell _).trans ((encTo_map a 64 _ 64 _ HZ.out c7.toNat_lt).trans (by rw [mapN_at HZ.out]))
            have S0 := Lib.hid s0
            have S1 := Lib.hid s1
            have S2 := Lib.hid s2
            have S3 := Lib.hid s3
            have S4 := Lib.hid s4
            have S5 := Lib.hid s5
            have S6 := Lib.hid s6
            have S7 := Lib.hid s7
            clear hEr w1 w2 w3 w4 w5 w6 s0 s1 s2 s3 s4 s5 s6 s7
            obtain ⟨VI, OB, has, hyes, hno⟩ := asm8 HZ.out c0 c1 c2 c3 c4 c5 c6 c7
            have HAS := Lib.hid has
            have HYES := Lib.hid hyes
            have HNO := Lib.hid hno
            clear has hyes hno
            have l0 : mapN a c0 < 256 := mapN_lt (Nat.le_of_eq HZ.out)
            have l1 : mapN a c1 < 256 := mapN_lt (Nat.le_of_eq HZ.out)
            have l2 : mapN a c2 < 256 := mapN_lt (Nat.le_of_eq HZ.out)
            have l3 : mapN a c3 < 256 := mapN_lt (Nat.le_of_eq HZ.out)
            have l4 : mapN a c4 < 256 := mapN_lt (Nat.le_of_eq HZ.out)
            have l5 : mapN a c5 < 256 := mapN_lt (Nat.le_of_eq HZ.out)
            have l6 : mapN a c6 < 256 := mapN_lt (Nat.le_of_eq HZ.out)
            have l7 : mapN a c7 < 256 := mapN_lt (Nat.le_of_eq HZ.out)
            generalize mapN a c0 = x0 at *
            generalize mapN a c1 = x1 at *
            generalize mapN a c2 = x2 at *
            generalize mapN a c3 = x3 at *
            generalize mapN a c4 = x4 at *
            generalize mapN a c5 = x5 at *
            generalize mapN a c6 = x6 at *
            generalize mapN a c7 = x7 at *
            go_wp2
            go_quiet ((go_at_call 36; exact quiet_left' (HAS.out _)))
            clear HAS d0 f0 l0 d1 f1 l1 d2 f2 l2 d3 f3 l3 d4 f4 l4 d5 f5 l5 d6 f6 l6 d7 f7 l7
            by_cases hall : isL a c0 = true ∧ isL a c1 = true ∧ isL a c2 = true ∧ isL a c3 = true ∧ isL a c4 = true ∧ isL a c5 = true ∧ isL a c6 = true ∧ isL a c7 = true
            · obtain ⟨hob, hvi⟩ := HYES.out hall
              subst hob
              obtain ⟨k0, k1, k2, k3, k4, k5, k6, k7⟩ := hall
              have l0 : numL a c0 < 64 := (map_letter k0 HZ.out).2
              have l1 : numL a c1 < 64 := (map_letter k1 HZ.out).2
              have l2 : numL a c2 < 64 := (map_letter k2 HZ.out).2
              have l3 : numL a c3 < 64 := (map_letter k3 HZ.out).2
              have l4 : numL a c4 < 64 := (map_letter k4 HZ.out).2
              have l5 : numL a c5 < 64 := (map_letter k5 HZ.out).2
              have l6 : numL a c6 < 64 := (map_letter k6 HZ.out).2
              have l7 : numL a c7 < 64 := (map_letter k7 HZ.out).2
              have HNI := Lib.hid ((HI.out.four c0 c1 c2 c3 S0.out S1.out S2.out S3.out k0 k1 k2 k3).four c4 c5 c6 c7 S4.out S5.out S6.out S7.out k4 k5 k6 k7)
              clear HYES HNO k0 S0 k1 S1 k2 S2 k3 S3 k4 S4 k5 S5 k6 S6 k7 S7
              generalize numL a c0 = z0 at *
              generalize numL a c1 = z1 at *
              generalize numL a c2 = z2 at *
              generalize numL a c3 = z3 at *
              generalize numL a c4 = z4 at *
              generalize numL a c5 = z5 at *
              generalize numL a c6 = z6 at *
              generalize numL a c7 = z7 at *
              obtain ⟨V, B0, B1, B2, B3, B4, B5, B6, B7, HAS0, HBS0, hVb, e0, e1, e2, e3, e4, e5, e6, e7, y0, y1, y2, y3, y4, y5, y6, y7⟩ := fast8_facts z0 z1 z2 z3 z4 z5 z6 z7 l0 l1 l2 l3 l4 l5 l6 l7
              rw [← HAS0] at hvi
              subst hvi
              have HBS := Lib.hid HBS0
              have HEV := Lib.hid (And.intro hVb (And.intro e0 (And.intro e1 (And.intro e2 (And.intro e3 (And.intro e4 (And.intro e5 (And.intro e6 e7))))))))
              clear HAS0 HBS0 hVb e0 e1 e2 e3 e4 e5 e6 e7
              obtain rfl := HD.out (by omega)
              obtain ⟨cur1, w1, w2, w3, w4, w5, w6⟩ := (HW.out.drewN nq)
              have HP := Lib.hid (put8 g (od + n) (m - n) (mc - n) V B0 B1 B2 B3 B4 B5 B6 B7 t cur1 _ w1 (by omega) (by omega) HEV.out.1 HEV.out.2.1 HEV.out.2.2.1 HEV.out.2.2.2.1 HEV.out.2.2.2.2.1 HEV.out.2.2.2.2.2.1 HEV.out.2.2.2.2.2.2.1 HEV.out.2.2.2.2.2.2.2.1 HEV.out.2.2.2.2.2.2.2.2)
              have W2 := Lib.hid w2
              have W3 := Lib.hid w3
              have W4 := Lib.hid w4
              have W5 := Lib.hid w5
              have W6 := Lib.hid w6
              clear w1 w2 w3 w4 w5 w6
              have hcap : ¬ mc = n := by omega
              go_wp2_with fail
              refine HP.out.mono ?_
              rintro e wp ⟨rfl, p1, p2⟩
              have P1 := Lib.hid p1
              have P2 := Lib.hid p2
              clear p1 p2 HP
              go_wp2
              go_roundw
              case rel =>
                have hf := sets8_facts cur1 (od + n) B0 B1 B2 B3 B4 B5 B6 B7 _ (by have := W2.out; omega) HBS.out y0 y1 y2 y3 y4 y5
                have hwr : Wrote g od t cur w (ds ++ (bytesOf [z0, z1, z2, z3] ++ bytesOf [z4, z5, z6, z7])) wp := Wrote.put8 W2.out W3.out W4.out W5.out W6.out (((((((((AsOr.refl cur1).set _ _ y0).set _ _ y1).set _ _ y2).set _ _ y3).set _ _ y4).set _ _ y5).set _ _ y6).set _ _ y7) (by rw [HBS.out]; rfl) P1.out hf.1 (by rw [HDL.out]; exact hf.2.1) (by rw [HDL.out]; exact hf.2.2) P2.out
                exact ⟨k + 8, n + 6, ds ++ (bytesOf [z0, z1, z2, z3] ++ bytesOf [z4, z5, z6, z7]), by omega, by omega, by go_num, rfl, by go_num, (by show _ = _; rw [List.length_append, HDL.out, HBS.out]; rfl), (by have := HNI.out; rw [List.append_assoc] at this; exact this), hwr⟩
              case measure => simp [intOf]; omega
            · obtain rfl := HNO.out hall
              clear hall HYES HNO S0 S1 S2 S3 S4 S5 S6 S7
              have HW2 : Hid (Wrote g o t cur w ds (wr.drewN nq)) := HW.out.drewN nq
              obtain ⟨wr2, hwr2⟩ : ∃ w2 : World, w2 = wr.drewN nq := ⟨_, rfl⟩
              rw [← hwr2] at HW2 ⊢
              clear hwr2
              obtain ⟨cur1, w1, w2, w3, w4, w5, w6⟩ := HW2.out
              have hEr := HE.out.grown w5 (by simpa using HEG.out)
              have hSr : Rd wr2 g (some ⟨b, off, none⟩) src := HS.out.grown w5
              have hq := fun (D' : Option Addr) (mc' : Nat) (hm1 : m - n ≤ mc') (hm2 : mc' ≤ maxLen) (hD' : 0 < m - n → D' = some ⟨g, o + n, none⟩) => quantum_any ge g (o + n) (m - n) mc' c k t a p st D' _ src cur1 wr2 hEr HZ.out hp1 hp2 HNL.out HEG.out w1 hD' (by omega) hm1 hm2 (fun k' v err h => by have := HI.out.room (by rw [← HN.out]; exact hkN) k' v err h; rw [HDL.out] at this; exact this) hSr (by rw [← HN.out]; exact hk) (by rw [← HN.out]; exact hc) HCX.out
              rw [← HN.out] at hq
              have HQ := Lib.hid hq
              have W2 := Lib.hid w2
              have W3 := Lib.hid w3
              have W4 := Lib.hid w4
              have W5 := Lib.hid w5
              have W6 := Lib.hid w6
              clear hq hEr hSr w1 w2 w3 w4 w5 w6
              have hod : 0 < m - n → od = o := fun h => HD.out (by omega)
              have HOD := Lib.hid hod
              clear hod
              by_cases hcap : mc = n
              all_goals
                go_wp2_with fail
                refine (HQ.out _ _ (by omega) (by first | exact Nat.zero_le _ | (have := HMX.out; omega)) (fun h => by first | omega | (rw [HOD.out h]))).mono ?_
                intro e wq hqp
                rw [← HDL.out] at hqp
                obtain ⟨he, hwr⟩ := Wrote.quant W2.out W3.out W4.out W5.out W6.out hqp
                have hqa : quantRes st (quant a p src.length [] (src.drop k) k) = quantAt a p st src k := rfl
                rw [HN.out, hqa] at he
                rw [HN.out, hqa] at hwr
                subst he
                have hksi := quantAt_si a p st src k (by rw [← HN.out]; exact hkN)
                have HST := Lib.hid (HI.out.step (by rw [← HN.out]; exact hkN))
                have HSP := Lib.hid (HI.out.stop (by rw [← HN.out]; exact hkN))
                have HBL := Lib.hid (HI.out.room2 (by rw [← HN.out]; exact hkN))
                generalize hqr : quantAt a p st src k = qr at *
                obtain ⟨k', bs, err⟩ := qr
                simp only at hksi hwr HST HSP HBL ⊢
                have HWR := Lib.hid hwr
                obtain ⟨hks1, hks2⟩ := hksi
                rw [← HN.out] at hks2
                have hbl : bs.length ≤ m - n := by have := HBL.out; rw [HDL.out] at this; exact this
                clear hwr hqr hqp hqa HQ W2 W3 W4 W5 W6 HBL
                cases err with
                | some er =>
                  have HFI := Lib.hid (HSP.out er rfl)
                  clear HST HSP
                  simp only [errV]
                  go_wp2
                  go_ret2
                  rw [HFI.out]
                  refine ⟨?_, HWR.out⟩
                  have := HDL.out
                  simp only [List.length_append, errV, this]
                  go_num
                | none =>
                  have HNI := Lib.hid (HST.out rfl)
                  clear HST HSP
                  simp only [errV]
                  go_wp2
                  go_roundw
                  case rel => exact ⟨k', n + bs.length, ds ++ bs, hks2, by omega, by go_num, rfl, rfl, (by show _ = _; rw [List.length_append, HDL.out]), HNI, HWR⟩
                  case measure => simp [intOf]; omega
          · have b2 : decide ((8 : Int) ≤ (m : Int) - (n : Int)) = false := by rw [decide_eq_false_iff_not]; omega
            go_wp2
            go_meet
            exact ⟨k, n, ds, hk, hn, rfl, rfl, rfl, HDL, HI, HW⟩
        · have b1 : decide ((8 : Int) ≤ (N : Int) - (k : Int)) = false := by rw [decide_eq_false_iff_not]; omega
          go_wp2
          go_meet
          exact ⟨k, n, ds, hk, hn, rfl, rfl, rfl, HDL, HI, HW⟩
    case rest =>
      refine (by assumption : ∀ a1 w1, Code.wp Try.prog _ (bodyPost Try.prog Try.f34 _) a1 w1 → _) _ _ ?_
      exact decode64_tail ge g o od m mc c N b off t a p st src cur w HE HZ hp1 hp2 HNL HEG HD hfit hmc HMX hmx HS HCS hbg HN hNp hc HCX hcx _ _ _ _ _ _ _ _ _ _ _ _ _ _ _ _ _ _ _ _ _ _ _ _ _ _ _ _ _ _ _ _ _ _ _ _ _ _ _ _ _ _ _ _ _ _ _ _ _ _ _ _ _ _ _ _ _ _ _ _ _ _ _ _ _ _ _ _ _ _ _ _ _ _ _ _ _ _ _ _ _ _ _ _ _ _ _ _ _ _ _ _ _ _ _ _ _ _ _ _ _ _ _ _ _ _ _ _ _ _ _ _ _ _ _ _ _ _ _ _ _ _ _ wc hcut

end Go.Proofs.Ytkiipbpcaakkoaa
