/-
  The contract of base64's decodeQuantum: it returns what the plain quantum says, and writes its bytes to the beginning of dst. Conditions: dst has room for the bytes and lies apart from src.
-/
import Derived.Test.YtkiipbpcaakkoaaD64P
import Derived.Test.YtkiipbpcaakkoaaEncI
import Derived.Deep.DeepCutAuto
import Derived.Deep.CutBlock
namespace Go.Proofs.Ytkiipbpcaakkoaa
open Go.RowKit
set_option linter.unusedVariables false

theorem arr256 : (Try.prog.info? 67).map (·.size) = some 256 := by kernel_rfl
theorem zero4 : (Try.prog.info? 86).bind (·.zero) = some (.agg (dcells []).toArray) := by kernel_rfl

/-- What the loop of decodeQuantum leaves. -/
def QCut (T : TypeId) (Q : Quant) (gd : Nat) (E : TypeId) (w : World) (s3 s10 s12 : Value) (wx : World) : Prop :=
  ∃ (k : Nat) (v : List Nat) (err : Option Int), s3 = .int .i64 (k : Int) ∧ s12 = .int .i64 (v.length : Int) ∧ s10 = errV T err ∧ Q = .got k v err ∧ Blk wx gd E (dcells v) ∧ Below w.heap.size w wx

set_option maxHeartbeats 4000000 in
set_option maxRecDepth 100000 in
theorem quantum_any (ge g o m mc c si : Nat) (t : TypeId) (a : List UInt8) (p : Int) (st : Bool) (D A : Option Addr) (src : List UInt8) (cur : List Value) (w : World)
    (he : Blk w ge 74 (encTo a 64 [.int .i32 p, .bool st])) (hz : a.length = 64) (hp1 : -1 ≤ p) (hp2 : p ≤ 255) (hnl : ∀ c, isNL c = true → isL a c = false) (hegn : ge ≠ g)
    (hb : Blk w g t cur) (hD : 0 < m → D = some ⟨g, o, none⟩) (hfit : o + m ≤ cur.length) (hmc : m ≤ mc) (hmx : mc ≤ maxLen)
    (hroom : ∀ k v err, quant a p src.length [] (src.drop si) si = .got k v err → v.length - 1 ≤ m)
    (hs : Rd w g A src) (hsi : si ≤ src.length) (hc : src.length ≤ c) (hcx : c ≤ maxLen) :
    Calls Try.prog 38 #[.pointer (some ⟨ge, 0, none⟩), .slice D m mc, .slice A src.length c, .int .i64 (si : Int)] w
      (QPost 64 st (quant a p src.length [] (src.drop si) si) g o t cur w) := by
  unfold maxLen at hmx hcx
  have HE := Lib.hid he
  have HZ := Lib.hid hz
  have HB := Lib.hid hb
  have HD := Lib.hid hD
  have HS := Lib.hid hs
  have HNL := Lib.hid hnl
  have HRM := Lib.hid hroom
  have hce : (encTo a 64 [.int .i32 p, .bool st]).length = 322 := by rw [encTo_length, hz]; rfl
  have HCE := Lib.hid hce
  have HEG := Lib.hid hegn
  clear he hz hb hD hs hnl hroom hce hegn
  obtain ⟨Q, hQ⟩ : ∃ Q, Q = quant a p src.length [] (src.drop si) si := ⟨_, rfl⟩
  rw [← hQ]
  rw [← hQ] at HRM
  have HQ := Lib.hid hQ
  clear hQ
  obtain ⟨N, hN⟩ : ∃ N, N = src.length := ⟨_, rfl⟩
  rw [← hN] at hsi hc ⊢
  have HN := Lib.hid hN
  clear hN
  go_enter Try.func38, Try.ntmps38
  go_upto_block 0 with (first
    | (with_reducible refine wpList_alloc_row rfl 86 rfl (dcells []) zero4 ?_
       intro w1 hb1 he1
       have HE1 : Hid (Blk w1 ge 74 (encTo a 64 [.int .i32 p, .bool st])) := by have := HE.out.alloc (.cells (dcells []).toArray 86); rw [← he1.out] at this; exact this)
    | ((with_reducible refine wpList_load_arr rfl 67 _ rfl ge 64 256 _ _ HE1.out _ Try.underlying67 arr256 ?_ ?_ ?_); (rw [HCE.out]; omega); rfl; intro v20)
    | fail)
  have HW1 : Hid (Below w.heap.size w w1) := by have := (Below.refl w.heap.size w).alloc (Nat.le_refl _) (.cells (dcells []).toArray 86); rw [← he1.out] at this; exact this
  clear HE1 he1
  go_cut [3, 10, 12] (fun s3 s10 s12 wx => QCut 64 Q w.heap.size 86 w s3 s10 s12 wx)
  case first =>
    go_wp2_with fail
    go_loopw [3, 10, 12, 13] (fun s3 s10 s12 s13 wr => ∃ (k : Nat) (v : List Nat), k ≤ N ∧ v.length ≤ 4 ∧ s3 = .int .i64 (k : Int) ∧ s10 = .nilIface ∧ s12 = .int .i64 4 ∧ s13 = .int .i64 (v.length : Int) ∧ Hid (Blk wr w.heap.size 86 (dcells v)) ∧ Hid (Below w.heap.size w wr) ∧ Hid ((v.length < 4 ∧ quant a p src.length v (src.drop k) k = Q) ∨ (v.length = 4 ∧ Q = .got k v none))) (fun s3 _ _ _ _ => N - (intOf s3).toNat)
    case atStart => exact ⟨si, [], hsi, by simp, rfl, rfl, rfl, rfl, hb1, HW1, Or.inl ⟨by simp, HQ.out.symm⟩⟩
    case round =>
      clear hb1 HW1
      obtain ⟨k, v, hk, hv4, rfl, rfl, rfl, rfl, HD1, HW1, HI⟩ := hrel
      by_cases hv3 : v.length < 4
      · have HIQ : Hid (quant a p src.length v (src.drop k) k = Q) := by
          rcases HI.out with h | h
          · exact h.2
          · omega
        clear HI
        have hEr := HE.out.below HW1.out HE.out.lt
        have hpc : wr.cell? ⟨ge, 320, none⟩ = some (.int .i32 p) := (hEr.cell 320).trans (encTo_tail a 64 _ 64 0 HZ.out)
        by_cases hkN : k < N
        · obtain ⟨c0, hc0⟩ : ∃ c0, src[k]? = some c0 := ⟨_, List.getElem?_eq_getElem (by rw [← HN.out]; exact hkN)⟩
          have hm : wr.cell? ⟨ge, 64 + c0.toNat, none⟩ = some (.int .u8 (mapAt a 64 c0.toNat)) := (hEr.cell _).trans (encTo_map a 64 _ 64 _ HZ.out c0.toNat_lt)
          obtain ⟨b, off, hA, hbg, hcs⟩ := HS.out (by rw [← HN.out]; omega)
          subst hA
          have hcell : wr.cell? ⟨b, off + k, none⟩ = some (.int .u8 (c0.toNat : Int)) := by
            have h1 := hcs k c0 hc0
            exact (HW1.out.cell (p := ⟨b, off + k, none⟩) (World.block_lt_of_cell? w _ h1)).trans h1
          have hcb := c0.toNat_lt
          have HC0 := Lib.hid hc0
          have HCS := Lib.hid hcs
          have HEr := Lib.hid hEr
          clear hc0 hcs hEr
          have hne : ((N : Int) == (k : Int)) = false := by rw [beq_eq_false_iff_ne]; omega
          cases hl : isL a c0
          · rw [map_other hl] at hm
            have HL := Lib.hid hl
            clear hl
            rcases nl_cases c0 with ⟨h1, h2⟩ | ⟨h1, h2, h3⟩ | ⟨h1, h2, h3⟩
            · have HQN : Hid (quant a p src.length v (src.drop (k + 1)) (k + 1) = Q) := by show _ = _; rw [← HIQ.out, quant_nl HC0.out HL.out h1]
              clear HIQ h1
              go_wp2
              go_roundw
              case rel => exact ⟨k + 1, v, by omega, hv4, by go_num, rfl, rfl, by go_num, HD1, HW1, Or.inl ⟨hv3, HQN.out⟩⟩
              case measure => simp [intOf]; omega
            · have HQN : Hid (quant a p src.length v (src.drop (k + 1)) (k + 1) = Q) := by show _ = _; rw [← HIQ.out, quant_nl HC0.out HL.out h1]
              clear HIQ h1
              go_wp2
              go_roundw
              case rel => exact ⟨k + 1, v, by omega, hv4, by go_num, rfl, rfl, by go_num, HD1, HW1, Or.inl ⟨hv3, HQN.out⟩⟩
              case measure => simp [intOf]; omega
            · by_cases hpp : (c0.toNat : Int) = p
              · have HPP := Lib.hid hpp
                have hpb : ((c0.toNat : Int) != p) = false := by simpa using hpp
                clear hpp
                rcases (by omega : v.length = 0 ∨ v.length = 1 ∨ v.length = 2 ∨ v.length = 3) with h0 | h0 | h0 | h0
                · have HBD : Hid (Q = .bad (k + 1) (k : Int)) := by show _ = _; rw [← HIQ.out, quant_low HC0.out HL.out h1 HPP.out (by omega)]
                  have h0' : ((v.length : Int) == 0) = true := by rw [beq_iff_eq]; omega
                  clear HIQ h1 h0
                  go_wp2
                  go_ret3
                  exact qpost_bad HBD.out HB.out HW1.out _ _ (by omega) (by omega)
                · have HBD : Hid (Q = .bad (k + 1) (k : Int)) := by show _ = _; rw [← HIQ.out, quant_low HC0.out HL.out h1 HPP.out (by omega)]
                  have h0' : ((v.length : Int) == 0) = false := by rw [beq_eq_false_iff_ne]; omega
                  have h1' : ((v.length : Int) == 1) = true := by rw [beq_iff_eq]; omega
                  clear HIQ h1 h0
                  go_wp2
                  go_ret3
                  exact qpost_bad HBD.out HB.out HW1.out _ _ (by omega) (by omega)
                · have HQP : Hid (quantPad p src.length v (src.drop (k + 1)) (k + 1) = Q) := by show _ = _; rw [← HIQ.out, quant_pad HC0.out HL.out h1 HPP.out (by omega)]
                  have h0' : ((v.length : Int) == 0) = false := by rw [beq_eq_false_iff_ne]; omega
                  have h1' : ((v.length : Int) == 1) = false := by rw [beq_eq_false_iff_ne]; omega
                  have h2' : ((v.length : Int) == 2) = true := by rw [beq_iff_eq]; omega
                  have HV2 := Lib.hid h0
                  clear HIQ h1 h0
                  go_wp2_with fail
                  go_loop [3] (fun s3 => ∃ k2 : Nat, k + 1 ≤ k2 ∧ k2 ≤ N ∧ s3 = .int .i64 (k2 : Int) ∧ Hid (skipNL (src.drop (k + 1)) (k + 1) = skipNL (src.drop k2) k2)) (fun s3 => N - (intOf s3).toNat)
                  case atStart => exact ⟨k + 1, Nat.le_refl _, by omega, by go_num, rfl⟩
                  case round =>
                    obtain ⟨k2, hk21, hk22, rfl, HSK⟩ := hrel
                    by_cases hk2 : k2 < N
                    · obtain ⟨c2, hc2⟩ : ∃ c2, src[k2]? = some c2 := ⟨_, List.getElem?_eq_getElem (by rw [← HN.out]; exact hk2)⟩
                      have hcell2 : wr.cell? ⟨b, off + k2, none⟩ = some (.int .u8 (c2.toNat : Int)) := by
                        have h1 := HCS.out k2 c2 hc2
                        exact (HW1.out.cell (p := ⟨b, off + k2, none⟩) (World.block_lt_of_cell? w _ h1)).trans h1
                      have hcb2 := c2.toNat_lt
                      have HC2 := Lib.hid hc2
                      clear hc2
                      have hlt2 : decide ((k2 : Int) < (N : Int)) = true := by rw [decide_eq_true_eq]; omega
                      rcases nl_cases c2 with ⟨g1, g2⟩ | ⟨g1, g2, g3⟩ | ⟨g1, g2, g3⟩
                      · have HSN : Hid (skipNL (src.drop (k + 1)) (k + 1) = skipNL (src.drop (k2 + 1)) (k2 + 1)) := by show _ = _; rw [HSK.out, skip_nl HC2.out g1]
                        clear g1
                        go_wp2
                        go_round
                        case rel => exact ⟨k2 + 1, by omega, by omega, by go_num, HSN⟩
                        case measure => simp [intOf]; omega
                      · have HSN : Hid (skipNL (src.drop (k + 1)) (k + 1) = skipNL (src.drop (k2 + 1)) (k2 + 1)) := by show _ = _; rw [HSK.out, skip_nl HC2.out g1]
                        clear g1
                        go_wp2
                        go_round
                        case rel => exact ⟨k2 + 1, by omega, by omega, by go_num, HSN⟩
                        case measure => simp [intOf]; omega
                      · have hne2 : ((k2 : Int) == (N : Int)) = false := by rw [beq_eq_false_iff_ne]; omega
                        have hi1 : (0 : Int) ≤ (k2 : Int) := by omega
                        have hi2 : (k2 : Int) < (N : Int) := by omega
                        by_cases hp2' : (c2.toNat : Int) = p
                        · have hpb2 : ((c2.toNat : Int) != p) = false := by simpa using hp2'
                          have HQT : Hid (quantTail v (src.drop (k2 + 1)) (k2 + 1) = Q) := by
                            show _ = _
                            rw [← HQP.out]
                            unfold quantPad
                            rw [if_pos HV2.out, HSK.out, skip_stop HC2.out g1]
                            simp only [if_pos hp2']
                          clear g1 hp2' HSK HQP
                          go_wp2
                          go_quiet (fail)
                          go_wp2_with fail
                          go_loop [3] (fun s3 => ∃ k3 : Nat, k2 + 1 ≤ k3 ∧ k3 ≤ N ∧ s3 = .int .i64 (k3 : Int) ∧ Hid (skipNL (src.drop (k2 + 1)) (k2 + 1) = skipNL (src.drop k3) k3)) (fun s3 => N - (intOf s3).toNat)
                          case atStart => exact ⟨k2 + 1, Nat.le_refl _, by omega, by go_num, rfl⟩
                          case round =>
                            obtain ⟨k3, hk31, hk32, rfl, HSK⟩ := hrel
                            by_cases hk3 : k3 < N
                            · obtain ⟨c3, hc3⟩ : ∃ c3, src[k3]? = some c3 := ⟨_, List.getElem?_eq_getElem (by rw [← HN.out]; exact hk3)⟩
                              have hcell3 : wr.cell? ⟨b, off + k3, none⟩ = some (.int .u8 (c3.toNat : Int)) := by
                                have h1 := HCS.out k3 c3 hc3
                                exact (HW1.out.cell (p := ⟨b, off + k3, none⟩) (World.block_lt_of_cell? w _ h1)).trans h1
                              have hcb3 := c3.toNat_lt
                              have HC3 := Lib.hid hc3
                              clear hc3
                              have hlt3 : decide ((k3 : Int) < (N : Int)) = true := by rw [decide_eq_true_eq]; omega
                              rcases nl_cases c3 with ⟨g1, g2⟩ | ⟨g1, g2, g3⟩ | ⟨g1, g2, g3⟩
                              · have HSN : Hid (skipNL (src.drop (k2 + 1)) (k2 + 1) = skipNL (src.drop (k3 + 1)) (k3 + 1)) := by show _ = _; rw [HSK.out, skip_nl HC3.out g1]
                                clear g1
                                go_wp2
                                go_round
                                case rel => exact ⟨k3 + 1, by omega, by omega, by go_num, HSN⟩
                                case measure => simp [intOf]; omega
                              · have HSN : Hid (skipNL (src.drop (k2 + 1)) (k2 + 1) = skipNL (src.drop (k3 + 1)) (k3 + 1)) := by show _ = _; rw [HSK.out, skip_nl HC3.out g1]
                                clear g1
                                go_wp2
                                go_round
                                case rel => exact ⟨k3 + 1, by omega, by omega, by go_num, HSN⟩
                                case measure => simp [intOf]; omega
                              · have HQF : Hid (Q = .got k3 v (some (k3 : Int))) := by
                                  show _ = _
                                  rw [← HQT.out]
                                  unfold quantTail
                                  rw [HSK.out, skip_stop HC3.out g1]
                                clear g1
                                go_wp2
                                go_meet
                                exact ⟨k3, v, some (k3 : Int), rfl, rfl, rfl, HQF.out, HD1.out.drewN _, below_drewN HW1.out _⟩
                            · obtain rfl : k3 = N := by omega
                              have HQF : Hid (Q = .got k3 v none) := by
                                show _ = _
                                rw [← HQT.out]
                                unfold quantTail
                                rw [HSK.out, skip_end (by rw [← HN.out]; exact Nat.le_refl _)]
                              have hlt3 : decide ((k3 : Int) < (k3 : Int)) = false := by simp
                              go_wp2
                              go_meet
                              exact ⟨k3, v, none, rfl, rfl, rfl, HQF.out, HD1.out.drewN _, below_drewN HW1.out _⟩
                        · have hpb2 : ((c2.toNat : Int) != p) = true := by simpa using hp2'
                          have HBD : Hid (Q = .bad k2 ((k2 : Int) - 1)) := by
                            show _ = _
                            rw [← HQP.out]
                            unfold quantPad
                            rw [if_pos HV2.out, HSK.out, skip_stop HC2.out g1]
                            simp only [if_neg hp2']
                          clear g1 hp2' HSK HQP
                          go_wp2
                          go_quiet (fail)
                          go_wp2
                          go_ret3
                          exact qpost_bad HBD.out HB.out (below_drewN HW1.out _) _ _ (by omega) (by omega)
                    · obtain rfl : k2 = N := by omega
                      have HBD : Hid (Q = .bad k2 (src.length : Int)) := by
                        show _ = _
                        rw [← HQP.out]
                        unfold quantPad
                        rw [if_pos HV2.out, HSK.out, skip_end (by rw [← HN.out]; exact Nat.le_refl _)]
                      have hlt2 : decide ((k2 : Int) < (k2 : Int)) = false := by simp
                      have hne2 : ((k2 : Int) == (k2 : Int)) = true := by simp
                      clear HQP HSK
                      go_wp2
                      go_ret3
                      exact qpost_bad HBD.out HB.out HW1.out _ _ (by omega) (by have := HN.out; omega)
                · have HQT : Hid (quantTail v (src.drop (k + 1)) (k + 1) = Q) := by
                    show _ = _
                    rw [← HIQ.out, quant_pad HC0.out HL.out h1 HPP.out (by omega)]
                    unfold quantPad
                    rw [if_neg (by omega)]
                  have h0' : ((v.length : Int) == 0) = false := by rw [beq_eq_false_iff_ne]; omega
                  have h1' : ((v.length : Int) == 1) = false := by rw [beq_eq_false_iff_ne]; omega
                  have h2' : ((v.length : Int) == 2) = false := by rw [beq_eq_false_iff_ne]; omega
                  clear HIQ h1 h0
                  go_wp2_with fail
                  go_loop [3] (fun s3 => ∃ k3 : Nat, k + 1 ≤ k3 ∧ k3 ≤ N ∧ s3 = .int .i64 (k3 : Int) ∧ Hid (skipNL (src.drop (k + 1)) (k + 1) = skipNL (src.drop k3) k3)) (fun s3 => N - (intOf s3).toNat)
                  case atStart => exact ⟨k + 1, Nat.le_refl _, by omega, by go_num, rfl⟩
                  case round =>
                    obtain ⟨k3, hk31, hk32, rfl, HSK⟩ := hrel
                    by_cases hk3 : k3 < N
                    · obtain ⟨c3, hc3⟩ : ∃ c3, src[k3]? = some c3 := ⟨_, List.getElem?_eq_getElem (by rw [← HN.out]; exact hk3)⟩
                      have hcell3 : wr.cell? ⟨b, off + k3, none⟩ = some (.int .u8 (c3.toNat : Int)) := by
                        have h1 := HCS.out k3 c3 hc3
                        exact (HW1.out.cell (p := ⟨b, off + k3, none⟩) (World.block_lt_of_cell? w _ h1)).trans h1
                      have hcb3 := c3.toNat_lt
                      have HC3 := Lib.hid hc3
                      clear hc3
                      have hlt3 : decide ((k3 : Int) < (N : Int)) = true := by rw [decide_eq_true_eq]; omega
                      rcases nl_cases c3 with ⟨g1, g2⟩ | ⟨g1, g2, g3⟩ | ⟨g1, g2, g3⟩
                      · have HSN : Hid (skipNL (src.drop (k + 1)) (k + 1) = skipNL (src.drop (k3 + 1)) (k3 + 1)) := by show _ = _; rw [HSK.out, skip_nl HC3.out g1]
                        clear g1
                        go_wp2
                        go_round
                        case rel => exact ⟨k3 + 1, by omega, by omega, by go_num, HSN⟩
                        case measure => simp [intOf]; omega
                      · have HSN : Hid (skipNL (src.drop (k + 1)) (k + 1) = skipNL (src.drop (k3 + 1)) (k3 + 1)) := by show _ = _; rw [HSK.out, skip_nl HC3.out g1]
                        clear g1
                        go_wp2
                        go_round
                        case rel => exact ⟨k3 + 1, by omega, by omega, by go_num, HSN⟩
                        case measure => simp [intOf]; omega
                      · have HQF : Hid (Q = .got k3 v (some (k3 : Int))) := by
                          show _ = _
                          rw [← HQT.out]
                          unfold quantTail
                          rw [HSK.out, skip_stop HC3.out g1]
                        clear g1
                        go_wp2
                        go_meet
                        exact ⟨k3, v, some (k3 : Int), rfl, rfl, rfl, HQF.out, HD1.out, HW1.out⟩
                    · obtain rfl : k3 = N := by omega
                      have HQF : Hid (Q = .got k3 v none) := by
                        show _ = _
                        rw [← HQT.out]
                        unfold quantTail
                        rw [HSK.out, skip_end (by rw [← HN.out]; exact Nat.le_refl _)]
                      have hlt3 : decide ((k3 : Int) < (k3 : Int)) = false := by simp
                      go_wp2
                      go_meet
                      exact ⟨k3, v, none, rfl, rfl, rfl, HQF.out, HD1.out, HW1.out⟩
              · have HBD : Hid (Q = .bad (k + 1) (k : Int)) := by show _ = _; rw [← HIQ.out, quant_other HC0.out HL.out h1 hpp]
                have hpb : ((c0.toNat : Int) != p) = true := by simpa using hpp
                clear hpp HIQ h1
                go_wp2
                go_ret3
                exact qpost_bad HBD.out HB.out HW1.out _ _ (by omega) (by omega)
          · obtain ⟨hme, hml⟩ := map_letter hl HZ.out
            rw [hme] at hm
            have HL := Lib.hid hl
            clear hl hme
            have HQN : Hid (((v ++ [numL a c0]).length < 4 ∧ quant a p src.length (v ++ [numL a c0]) (src.drop (k + 1)) (k + 1) = Q) ∨ ((v ++ [numL a c0]).length = 4 ∧ Q = .got (k + 1) (v ++ [numL a c0]) none)) := by
              rw [List.length_append, List.length_singleton]
              by_cases h3 : v.length = 3
              · refine Or.inr ⟨by omega, ?_⟩
                rw [← HIQ.out, quant_last HC0.out HL.out h3]
              · refine Or.inl ⟨by omega, ?_⟩
                rw [← HIQ.out, quant_letter HC0.out HL.out h3]
            clear HIQ
            obtain ⟨x, hx⟩ : ∃ x, x = numL a c0 := ⟨_, rfl⟩
            rw [← hx] at hml hm HQN
            clear hx
            have hx255 : ((x : Int) != 255) = true := by rw [bne_iff_ne]; omega
            have hdc : wr.cell? ⟨w.heap.size, v.length, none⟩ = some (.int .u8 0) := (HD1.out.cell _).trans (dcells_next v hv3)
            have hdf : wr.frozen? ⟨w.heap.size, v.length, none⟩ = false := HD1.out.frozen _
            go_wp2
            go_roundw
            case rel =>
              refine ⟨k + 1, v ++ [x], by omega, by simp; omega, by go_num, rfl, rfl, by simp, ?_, HW1.out.setCell (Nat.le_refl _) _, HQN⟩
              have := HD1.out.set_ v.length (Value.int .u8 (x : Int))
              rw [dcells_set v x hv3] at this
              exact this
            case measure => simp [intOf]; omega
        · obtain rfl : k = N := by omega
          have HQE := HIQ.out
          rw [quant_end (by rw [← HN.out]; exact Nat.le_refl _)] at HQE
          have HQE := Lib.hid HQE
          clear HIQ hEr
          have hne : ((k : Int) == (k : Int)) = true := by simp
          rcases (by omega : v.length = 0 ∨ v.length = 1 ∨ (v.length = 2 ∨ v.length = 3)) with h0 | h1 | h23
          · have hQ := HQE.out
            rw [if_pos h0] at hQ
            have HQ' := Lib.hid hQ.symm
            have h0' : ((v.length : Int) == 0) = true := by rw [beq_iff_eq]; omega
            clear hQ h0 HQE
            go_wp2
            go_ret3
            exact qpost_none HQ'.out HB.out HW1.out
          · have hQ := HQE.out
            rw [if_neg (by omega), if_pos (Or.inl h1)] at hQ
            have HQ' := Lib.hid hQ.symm
            have h0' : ((v.length : Int) == 0) = false := by rw [beq_eq_false_iff_ne]; omega
            have h1' : ((v.length : Int) == 1) = true := by rw [beq_iff_eq]; omega
            clear hQ h1 HQE
            go_wp2
            go_ret3
            exact qpost_bad HQ'.out HB.out HW1.out _ _ (by omega) (by omega)
          · have h0' : ((v.length : Int) == 0) = false := by rw [beq_eq_false_iff_ne]; omega
            have h1' : ((v.length : Int) == 1) = false := by rw [beq_eq_false_iff_ne]; omega
            by_cases hpn : p = -1
            · have hQ := HQE.out
              rw [if_neg (by omega), if_neg (by omega)] at hQ
              have HQ' := Lib.hid hQ.symm
              have hpb : (p != -1) = false := by simpa using hpn
              clear hQ HQE hpn
              go_wp2
              go_meet
              exact ⟨k, v, none, rfl, rfl, rfl, HQ'.out, HD1.out, HW1.out⟩
            · have hQ := HQE.out
              rw [if_neg (by omega), if_pos (Or.inr hpn)] at hQ
              have HQ' := Lib.hid hQ.symm
              have hpb : (p != -1) = true := by simpa using hpn
              clear hQ HQE hpn
              go_wp2
              go_ret3
              exact qpost_bad HQ'.out HB.out HW1.out _ _ (by omega) (by omega)
      · have hv : v.length = 4 := by omega
        have HIQ : Hid (Q = .got k v none) := by
          rcases HI.out with h | h
          · omega
          · exact h.2
        have HV := Lib.hid hv
        clear HI
        go_wp2
        go_meet
        exact ⟨k, v, none, rfl, by rw [HV.out]; rfl, rfl, HIQ.out, HD1.out, HW1.out⟩
  case rest =>
    clear hb1 HW1
    obtain ⟨k, v, err, rfl, rfl, rfl, hQ, hdb, hw⟩ := hcut
    have hgo := quant_got a p src.length (src.drop si) [] si k v err (by simp) (by rw [← HQ.out]; exact hQ)
    have hlt := quant_lt a p src.length 64 HZ.out (src.drop si) [] si k v err (by simp) (by rw [← HQ.out]; exact hQ)
    have hrm := HRM.out k v err hQ
    have hv2 := hgo.1
    have hv4 := hgo.2.1
    have hkN : k ≤ N := by have := hgo.2.2.2.2.1; rw [List.length_drop, ← HN.out] at this; omega
    have hk2 : 2 ≤ k := by have := hgo.2.2.2.1; simp at this; omega
    have HE4 : Hid (v.length = 4 → err = none) := hgo.2.2.2.2.2.2.2.1
    have HQ2 := Lib.hid hQ
    have HDB := Lib.hid hdb
    have HW := Lib.hid hw
    have HLT := Lib.hid hlt
    clear hgo hQ hdb hw HQ HRM hlt
    have hgl : g < w.heap.size := HB.out.lt
    have HBc : Hid (Blk wc g t cur) := HB.out.below HW.out hgl
    have hEr := HE.out.below HW.out HE.out.lt
    have hst : wc.cell? ⟨ge, 321, none⟩ = some (.bool st) := (hEr.cell 321).trans (encTo_tail a 64 _ 64 1 HZ.out)
    have HEc := Lib.hid hEr
    clear hEr
    have HDa := Lib.hid (HD.out (by omega))
    match v, hv2, hv4, HDB, HLT, HE4, HQ2, hrm with
    | [b0, b1, b2, b3], _, _, HDB, HLT, HE4, HQ2, hrm =>
      obtain rfl := HE4.out rfl
      have hD := HDa.out
      subst hD
      have l_b0 := HLT.out b0 (by simp)
      have l_b1 := HLT.out b1 (by simp)
      have l_b2 := HLT.out b2 (by simp)
      have l_b3 := HLT.out b3 (by simp)
      have d0 : wc.cell? ⟨w.heap.size, 0, none⟩ = some (.int .u8 (b0 : Int)) := HDB.out.cell 0
      have d1 : wc.cell? ⟨w.heap.size, 1, none⟩ = some (.int .u8 (b1 : Int)) := HDB.out.cell 1
      have d2 : wc.cell? ⟨w.heap.size, 2, none⟩ = some (.int .u8 (b2 : Int)) := HDB.out.cell 2
      have d3 : wc.cell? ⟨w.heap.size, 3, none⟩ = some (.int .u8 (b3 : Int)) := HDB.out.cell 3
      have f0 : wc.frozen? ⟨w.heap.size, 0, none⟩ = false := HDB.out.frozen 0
      have f1 : wc.frozen? ⟨w.heap.size, 1, none⟩ = false := HDB.out.frozen 1
      have f2 : wc.frozen? ⟨w.heap.size, 2, none⟩ = false := HDB.out.frozen 2
      have hor := four64 b0 b1 b2 b3 l_b0 l_b1 l_b2 l_b3
      obtain ⟨V, hV⟩ : ∃ V : Nat, V = b0 * 262144 + b1 * 4096 + b2 * 64 + b3 := ⟨_, rfl⟩
      have hor' : bits .or .u64 (bits .or .u64 (bits .or .u64 ((b0 : Int) * 262144) ((b1 : Int) * 4096)) ((b2 : Int) * 64)) (b3 : Int) = (V : Int) := by rw [hV]; simpa using hor
      clear hor
      have hV1 : V < 16777216 := by omega
      obtain ⟨B0, hB0⟩ : ∃ B, B = b0 * 4 + b1 / 16 := ⟨_, rfl⟩
      obtain ⟨B1, hB1⟩ : ∃ B, B = b1 % 16 * 16 + b2 / 4 := ⟨_, rfl⟩
      obtain ⟨B2, hB2⟩ : ∃ B, B = b2 % 4 * 64 + b3 := ⟨_, rfl⟩
      have m0 : B0 < 256 := by omega
      have m1 : B1 < 256 := by omega
      have m2 : B2 < 256 := by omega
      have e2 : (V : Int) % 256 = (B2 : Int) := by omega
      have e1 : (V : Int) / 256 % 256 = (B1 : Int) := by omega
      have e0 : (V : Int) / 65536 = (B0 : Int) := by omega
      have H0 := Lib.hid hB0
      have H1 := Lib.hid hB1
      have H2 := Lib.hid hB2
      clear hV hB0 hB1 hB2
      obtain ⟨u0, g0⟩ : ∃ u, wc.cell? ⟨g, o, none⟩ = some u := ⟨_, (HBc.out.cell (o)).trans (List.getElem?_eq_getElem (by simp only [List.length_cons, List.length_nil] at hrm; omega))⟩
      have z0 : wc.frozen? ⟨g, o, none⟩ = false := HBc.out.frozen _
      obtain ⟨u1, g1⟩ : ∃ u, wc.cell? ⟨g, o + 1, none⟩ = some u := ⟨_, (HBc.out.cell (o + 1)).trans (List.getElem?_eq_getElem (by simp only [List.length_cons, List.length_nil] at hrm; omega))⟩
      have z1 : wc.frozen? ⟨g, o + 1, none⟩ = false := HBc.out.frozen _
      obtain ⟨u2, g2⟩ : ∃ u, wc.cell? ⟨g, o + 2, none⟩ = some u := ⟨_, (HBc.out.cell (o + 2)).trans (List.getElem?_eq_getElem (by simp only [List.length_cons, List.length_nil] at hrm; omega))⟩
      have z2 : wc.frozen? ⟨g, o + 2, none⟩ = false := HBc.out.frozen _
      have hm3 : 3 ≤ m := by simpa using hrm
      have hng : ¬ w.heap.size = g := by omega
      have hng2 : ¬ g = w.heap.size := by omega
      have heg1 : ¬ ge = g := HEG.out
      have heg2 : ¬ ge = w.heap.size := by have := HE.out.lt; omega
      have heg3 : ¬ g = ge := fun h => HEG.out h.symm
      have heg4 : ¬ w.heap.size = ge := fun h => heg2 h.symm
      have GW : Hid (w.grownBy wc (some g)) := below_grown HW.out
      cases st
      · go_wp2
        go_ret3
        have B9 := ((((((((HBc.out.far (p := ⟨w.heap.size, 2, none⟩) (by simpa using hng2) (.int .u8 (B2 : Int))).far (p := ⟨w.heap.size, 1, none⟩) (by simpa using hng2) (.int .u8 (B1 : Int))).far (p := ⟨w.heap.size, 0, none⟩) (by simpa using hng2) (.int .u8 (B0 : Int))).set_ (o + 2) (.int .u8 (B2 : Int))).far (p := ⟨w.heap.size, 2, none⟩) (by simpa using hng2) (.int .u8 0)).set_ (o + 1) (.int .u8 (B1 : Int))).far (p := ⟨w.heap.size, 1, none⟩) (by simpa using hng2) (.int .u8 0)).set_ (o) (.int .u8 (B0 : Int)))
        have G9 := (grown_set (grown_new (grown_set (grown_new (grown_set (grown_new (grown_new (grown_new GW.out (p := ⟨w.heap.size, 2, none⟩) (Nat.le_refl _) (.int .u8 (B2 : Int))) (p := ⟨w.heap.size, 1, none⟩) (Nat.le_refl _) (.int .u8 (B1 : Int))) (p := ⟨w.heap.size, 0, none⟩) (Nat.le_refl _) (.int .u8 (B0 : Int))) (o + 2) (.int .u8 (B2 : Int))) (p := ⟨w.heap.size, 2, none⟩) (Nat.le_refl _) (.int .u8 0)) (o + 1) (.int .u8 (B1 : Int))) (p := ⟨w.heap.size, 1, none⟩) (Nat.le_refl _) (.int .u8 0)) (o) (.int .u8 (B0 : Int)))
        show QPost _ _ _ _ _ _ _ _ (.returned (.tuple #[.int .i64 (k : Int), .int .i64 3, .nilIface])) _
        exact qpost_4 HQ2.out (B0 := B0) (B1 := B1) (B2 := B2) B9 (by omega) G9 H0.out H1.out H2.out m0 m1 m2
      · go_upto_region 53 with fail
        generalize hy : ((((((((wc.setCell ⟨w.heap.size, 2, none⟩ (.int .u8 (B2 : Int))).setCell ⟨w.heap.size, 1, none⟩ (.int .u8 (B1 : Int))).setCell ⟨w.heap.size, 0, none⟩ (.int .u8 (B0 : Int))).setCell ⟨g, o + 2, none⟩ (.int .u8 (B2 : Int))).setCell ⟨w.heap.size, 2, none⟩ (.int .u8 0)).setCell ⟨g, o + 1, none⟩ (.int .u8 (B1 : Int))).setCell ⟨w.heap.size, 1, none⟩ (.int .u8 0)).setCell ⟨g, o, none⟩ (.int .u8 (B0 : Int))) = y
        have B8 := ((((((((HBc.out.far (p := ⟨w.heap.size, 2, none⟩) (by simpa using hng2) (.int .u8 (B2 : Int))).far (p := ⟨w.heap.size, 1, none⟩) (by simpa using hng2) (.int .u8 (B1 : Int))).far (p := ⟨w.heap.size, 0, none⟩) (by simpa using hng2) (.int .u8 (B0 : Int))).set_ (o + 2) (.int .u8 (B2 : Int))).far (p := ⟨w.heap.size, 2, none⟩) (by simpa using hng2) (.int .u8 0)).set_ (o + 1) (.int .u8 (B1 : Int))).far (p := ⟨w.heap.size, 1, none⟩) (by simpa using hng2) (.int .u8 0)).set_ (o) (.int .u8 (B0 : Int)))
        rw [hy] at B8
        have HB9 := Lib.hid B8
        clear B8
        have HG9 : Hid (w.grownBy y (some g)) := by have := (grown_set (grown_new (grown_set (grown_new (grown_set (grown_new (grown_new (grown_new GW.out (p := ⟨w.heap.size, 2, none⟩) (Nat.le_refl _) (.int .u8 (B2 : Int))) (p := ⟨w.heap.size, 1, none⟩) (Nat.le_refl _) (.int .u8 (B1 : Int))) (p := ⟨w.heap.size, 0, none⟩) (Nat.le_refl _) (.int .u8 (B0 : Int))) (o + 2) (.int .u8 (B2 : Int))) (p := ⟨w.heap.size, 2, none⟩) (Nat.le_refl _) (.int .u8 0)) (o + 1) (.int .u8 (B1 : Int))) (p := ⟨w.heap.size, 1, none⟩) (Nat.le_refl _) (.int .u8 0)) (o) (.int .u8 (B0 : Int))); rw [hy] at this; exact this
        have D9 := ((((((((HDB.out.set_ 2 (.int .u8 (B2 : Int))).set_ 1 (.int .u8 (B1 : Int))).set_ 0 (.int .u8 (B0 : Int))).far (p := ⟨g, o + 2, none⟩) (by simpa using hng) (.int .u8 (B2 : Int))).set_ 2 (.int .u8 0)).far (p := ⟨g, o + 1, none⟩) (by simpa using hng) (.int .u8 (B1 : Int))).set_ 1 (.int .u8 0)).far (p := ⟨g, o, none⟩) (by simpa using hng) (.int .u8 (B0 : Int)))
        rw [hy] at D9
        have E9 : Blk y ge 74 (encTo a 64 [.int .i32 p, .bool true]) := by have := ((((((((HEc.out.far (p := ⟨w.heap.size, 2, none⟩) (by simpa using heg2) (.int .u8 (B2 : Int))).far (p := ⟨w.heap.size, 1, none⟩) (by simpa using heg2) (.int .u8 (B1 : Int))).far (p := ⟨w.heap.size, 0, none⟩) (by simpa using heg2) (.int .u8 (B0 : Int))).far (p := ⟨g, o + 2, none⟩) (by simpa using heg1) (.int .u8 (B2 : Int))).far (p := ⟨w.heap.size, 2, none⟩) (by simpa using heg2) (.int .u8 0)).far (p := ⟨g, o + 1, none⟩) (by simpa using heg1) (.int .u8 (B1 : Int))).far (p := ⟨w.heap.size, 1, none⟩) (by simpa using heg2) (.int .u8 0)).far (p := ⟨g, o, none⟩) (by simpa using heg1) (.int .u8 (B0 : Int))); rw [hy] at this; exact this
        have c1 : y.cell? ⟨w.heap.size, 1, none⟩ = some (.int .u8 0) := D9.cell 1
        have c2 : y.cell? ⟨w.heap.size, 2, none⟩ = some (.int .u8 0) := D9.cell 2
        have c3 : y.cell? ⟨ge, 321, none⟩ = some (.bool true) := (E9.cell 321).trans (encTo_tail a 64 _ 64 1 HZ.out)
        clear D9 E9 hy d0 d1 d2 d3 f0 f1 f2 hst
        go_wp2
        go_ret3
        have B9 := HB9.out
        have G9 := HG9.out
        show QPost _ _ _ _ _ _ _ _ (.returned (.tuple #[.int .i64 (k : Int), .int .i64 3, .nilIface])) _
        exact qpost_4 HQ2.out (B0 := B0) (B1 := B1) (B2 := B2) B9 (by omega) G9 H0.out H1.out H2.out m0 m1 m2
    | [b0, b1, b2], _, _, HDB, HLT, HE4, HQ2, hrm =>
      have hD := HDa.out
      subst hD
      have l_b0 := HLT.out b0 (by simp)
      have l_b1 := HLT.out b1 (by simp)
      have l_b2 := HLT.out b2 (by simp)
      have d0 : wc.cell? ⟨w.heap.size, 0, none⟩ = some (.int .u8 (b0 : Int)) := HDB.out.cell 0
      have d1 : wc.cell? ⟨w.heap.size, 1, none⟩ = some (.int .u8 (b1 : Int)) := HDB.out.cell 1
      have d2 : wc.cell? ⟨w.heap.size, 2, none⟩ = some (.int .u8 (b2 : Int)) := HDB.out.cell 2
      have d3 : wc.cell? ⟨w.heap.size, 3, none⟩ = some (.int .u8 0) := HDB.out.cell 3
      have f0 : wc.frozen? ⟨w.heap.size, 0, none⟩ = false := HDB.out.frozen 0
      have f1 : wc.frozen? ⟨w.heap.size, 1, none⟩ = false := HDB.out.frozen 1
      have f2 : wc.frozen? ⟨w.heap.size, 2, none⟩ = false := HDB.out.frozen 2
      have hor := four64 b0 b1 b2 0 l_b0 l_b1 l_b2 (by omega)
      obtain ⟨V, hV⟩ : ∃ V : Nat, V = b0 * 262144 + b1 * 4096 + b2 * 64 := ⟨_, rfl⟩
      have hor' : bits .or .u64 (bits .or .u64 (bits .or .u64 ((b0 : Int) * 262144) ((b1 : Int) * 4096)) ((b2 : Int) * 64)) 0 = (V : Int) := by rw [hV]; simpa using hor
      clear hor
      have hV1 : V < 16777216 := by omega
      obtain ⟨B0, hB0⟩ : ∃ B, B = b0 * 4 + b1 / 16 := ⟨_, rfl⟩
      obtain ⟨B1, hB1⟩ : ∃ B, B = b1 % 16 * 16 + b2 / 4 := ⟨_, rfl⟩
      obtain ⟨B2, hB2⟩ : ∃ B, B = b2 % 4 * 64 := ⟨_, rfl⟩
      have m0 : B0 < 256 := by omega
      have m1 : B1 < 256 := by omega
      have m2 : B2 < 256 := by omega
      have e2 : (V : Int) % 256 = (B2 : Int) := by omega
      have e1 : (V : Int) / 256 % 256 = (B1 : Int) := by omega
      have e0 : (V : Int) / 65536 = (B0 : Int) := by omega
      have H0 := Lib.hid hB0
      have H1 := Lib.hid hB1
      have H2 := Lib.hid hB2
      clear hV hB0 hB1 hB2
      obtain ⟨u0, g0⟩ : ∃ u, wc.cell? ⟨g, o, none⟩ = some u := ⟨_, (HBc.out.cell (o)).trans (List.getElem?_eq_getElem (by simp only [List.length_cons, List.length_nil] at hrm; omega))⟩
      have z0 : wc.frozen? ⟨g, o, none⟩ = false := HBc.out.frozen _
      obtain ⟨u1, g1⟩ : ∃ u, wc.cell? ⟨g, o + 1, none⟩ = some u := ⟨_, (HBc.out.cell (o + 1)).trans (List.getElem?_eq_getElem (by simp only [List.length_cons, List.length_nil] at hrm; omega))⟩
      have z1 : wc.frozen? ⟨g, o + 1, none⟩ = false := HBc.out.frozen _
      have hm2 : 2 ≤ m := by simpa using hrm
      have hng : ¬ w.heap.size = g := by omega
      have hng2 : ¬ g = w.heap.size := by omega
      have heg1 : ¬ ge = g := HEG.out
      have heg2 : ¬ ge = w.heap.size := by have := HE.out.lt; omega
      have heg3 : ¬ g = ge := fun h => HEG.out h.symm
      have heg4 : ¬ w.heap.size = ge := fun h => heg2 h.symm
      have GW : Hid (w.grownBy wc (some g)) := below_grown HW.out
      cases st
      · go_wp2
        go_ret3
        have B9 := ((((((HBc.out.far (p := ⟨w.heap.size, 2, none⟩) (by simpa using hng2) (.int .u8 (B2 : Int))).far (p := ⟨w.heap.size, 1, none⟩) (by simpa using hng2) (.int .u8 (B1 : Int))).far (p := ⟨w.heap.size, 0, none⟩) (by simpa using hng2) (.int .u8 (B0 : Int))).set_ (o + 1) (.int .u8 (B1 : Int))).far (p := ⟨w.heap.size, 1, none⟩) (by simpa using hng2) (.int .u8 0)).set_ (o) (.int .u8 (B0 : Int)))
        have G9 := (grown_set (grown_new (grown_set (grown_new (grown_new (grown_new GW.out (p := ⟨w.heap.size, 2, none⟩) (Nat.le_refl _) (.int .u8 (B2 : Int))) (p := ⟨w.heap.size, 1, none⟩) (Nat.le_refl _) (.int .u8 (B1 : Int))) (p := ⟨w.heap.size, 0, none⟩) (Nat.le_refl _) (.int .u8 (B0 : Int))) (o + 1) (.int .u8 (B1 : Int))) (p := ⟨w.heap.size, 1, none⟩) (Nat.le_refl _) (.int .u8 0)) (o) (.int .u8 (B0 : Int)))
        show QPost _ _ _ _ _ _ _ _ (.returned (.tuple #[.int .i64 (k : Int), .int .i64 2, errV _ _])) _
        exact qpost_3 HQ2.out (B0 := B0) (B1 := B1) B9 (by omega) G9 H0.out H1.out m0 m1 (Or.inl rfl)
      · by_cases hu : b2 % 4 = 0
        · have HU := Lib.hid hu
          have hB20' : (B2 : Int) = 0 := by have := H2.out; omega
          rw [hB20'] at e2
          clear hu hB20'
          go_upto_region 53 with fail
          generalize hy : ((((((wc.setCell ⟨w.heap.size, 2, none⟩ (.int .u8 0)).setCell ⟨w.heap.size, 1, none⟩ (.int .u8 (B1 : Int))).setCell ⟨w.heap.size, 0, none⟩ (.int .u8 (B0 : Int))).setCell ⟨g, o + 1, none⟩ (.int .u8 (B1 : Int))).setCell ⟨w.heap.size, 1, none⟩ (.int .u8 0)).setCell ⟨g, o, none⟩ (.int .u8 (B0 : Int))) = y
          have B8 := ((((((HBc.out.far (p := ⟨w.heap.size, 2, none⟩) (by simpa using hng2) (.int .u8 0)).far (p := ⟨w.heap.size, 1, none⟩) (by simpa using hng2) (.int .u8 (B1 : Int))).far (p := ⟨w.heap.size, 0, none⟩) (by simpa using hng2) (.int .u8 (B0 : Int))).set_ (o + 1) (.int .u8 (B1 : Int))).far (p := ⟨w.heap.size, 1, none⟩) (by simpa using hng2) (.int .u8 0)).set_ (o) (.int .u8 (B0 : Int)))
          rw [hy] at B8
          have HB9 := Lib.hid B8
          clear B8
          have HG9 : Hid (w.grownBy y (some g)) := by have := (grown_set (grown_new (grown_set (grown_new (grown_new (grown_new GW.out (p := ⟨w.heap.size, 2, none⟩) (Nat.le_refl _) (.int .u8 0)) (p := ⟨w.heap.size, 1, none⟩) (Nat.le_refl _) (.int .u8 (B1 : Int))) (p := ⟨w.heap.size, 0, none⟩) (Nat.le_refl _) (.int .u8 (B0 : Int))) (o + 1) (.int .u8 (B1 : Int))) (p := ⟨w.heap.size, 1, none⟩) (Nat.le_refl _) (.int .u8 0)) (o) (.int .u8 (B0 : Int))); rw [hy] at this; exact this
          have D9 := ((((((HDB.out.set_ 2 (.int .u8 0)).set_ 1 (.int .u8 (B1 : Int))).set_ 0 (.int .u8 (B0 : Int))).far (p := ⟨g, o + 1, none⟩) (by simpa using hng) (.int .u8 (B1 : Int))).set_ 1 (.int .u8 0)).far (p := ⟨g, o, none⟩) (by simpa using hng) (.int .u8 (B0 : Int)))
          rw [hy] at D9
          have E9 : Blk y ge 74 (encTo a 64 [.int .i32 p, .bool true]) := by have := ((((((HEc.out.far (p := ⟨w.heap.size, 2, none⟩) (by simpa using heg2) (.int .u8 0)).far (p := ⟨w.heap.size, 1, none⟩) (by simpa using heg2) (.int .u8 (B1 : Int))).far (p := ⟨w.heap.size, 0, none⟩) (by simpa using heg2) (.int .u8 (B0 : Int))).far (p := ⟨g, o + 1, none⟩) (by simpa using heg1) (.int .u8 (B1 : Int))).far (p := ⟨w.heap.size, 1, none⟩) (by simpa using heg2) (.int .u8 0)).far (p := ⟨g, o, none⟩) (by simpa using heg1) (.int .u8 (B0 : Int))); rw [hy] at this; exact this
          have c1 : y.cell? ⟨w.heap.size, 1, none⟩ = some (.int .u8 0) := D9.cell 1
          have c2 : y.cell? ⟨w.heap.size, 2, none⟩ = some (.int .u8 0) := D9.cell 2
          have c3 : y.cell? ⟨ge, 321, none⟩ = some (.bool true) := (E9.cell 321).trans (encTo_tail a 64 _ 64 1 HZ.out)
          clear D9 E9 hy d0 d1 d2 d3 f0 f1 f2 hst
          go_wp2
          go_ret3
          have B9 := HB9.out
          have G9 := HG9.out
          show QPost _ _ _ _ _ _ _ _ (.returned (.tuple #[.int .i64 (k : Int), .int .i64 2, errV _ _])) _
          exact qpost_3 HQ2.out (B0 := B0) (B1 := B1) B9 (by omega) G9 H0.out H1.out m0 m1 (Or.inr HU.out)
        · have hB0 : ((B2 : Int) != 0) = true := by have := H2.out; rw [bne_iff_ne]; omega
          have HU := Lib.hid hu
          clear hu
          go_wp2
          go_ret3
          have B9 := ((((HBc.out.far (p := ⟨w.heap.size, 2, none⟩) (by simpa using hng2) (.int .u8 (B2 : Int))).far (p := ⟨w.heap.size, 1, none⟩) (by simpa using hng2) (.int .u8 (B1 : Int))).far (p := ⟨w.heap.size, 0, none⟩) (by simpa using hng2) (.int .u8 (B0 : Int))).set_ (o + 1) (.int .u8 (B1 : Int)))
          have G9 := (grown_set (grown_new (grown_new (grown_new GW.out (p := ⟨w.heap.size, 2, none⟩) (Nat.le_refl _) (.int .u8 (B2 : Int))) (p := ⟨w.heap.size, 1, none⟩) (Nat.le_refl _) (.int .u8 (B1 : Int))) (p := ⟨w.heap.size, 0, none⟩) (Nat.le_refl _) (.int .u8 (B0 : Int))) (o + 1) (.int .u8 (B1 : Int)))
          show QPost _ _ _ _ _ _ _ _ (.returned (.tuple #[.int .i64 (k : Int), .int .i64 0, .iface _ (.int .i64 ((k : Int) - 1))])) _
          exact qpost_3s HQ2.out m1 B9 G9 HU.out _ rfl
    | [b0, b1], _, _, HDB, HLT, HE4, HQ2, hrm =>
      have hD := HDa.out
      subst hD
      have l_b0 := HLT.out b0 (by simp)
      have l_b1 := HLT.out b1 (by simp)
      have d0 : wc.cell? ⟨w.heap.size, 0, none⟩ = some (.int .u8 (b0 : Int)) := HDB.out.cell 0
      have d1 : wc.cell? ⟨w.heap.size, 1, none⟩ = some (.int .u8 (b1 : Int)) := HDB.out.cell 1
      have d2 : wc.cell? ⟨w.heap.size, 2, none⟩ = some (.int .u8 0) := HDB.out.cell 2
      have d3 : wc.cell? ⟨w.heap.size, 3, none⟩ = some (.int .u8 0) := HDB.out.cell 3
      have f0 : wc.frozen? ⟨w.heap.size, 0, none⟩ = false := HDB.out.frozen 0
      have f1 : wc.frozen? ⟨w.heap.size, 1, none⟩ = false := HDB.out.frozen 1
      have f2 : wc.frozen? ⟨w.heap.size, 2, none⟩ = false := HDB.out.frozen 2
      have hor := four64 b0 b1 0 0 l_b0 l_b1 (by omega) (by omega)
      obtain ⟨V, hV⟩ : ∃ V : Nat, V = b0 * 262144 + b1 * 4096 := ⟨_, rfl⟩
      have hor' : bits .or .u64 (bits .or .u64 (bits .or .u64 ((b0 : Int) * 262144) ((b1 : Int) * 4096)) 0) 0 = (V : Int) := by rw [hV]; simpa using hor
      clear hor
      have hV1 : V < 16777216 := by omega
      obtain ⟨B0, hB0⟩ : ∃ B, B = b0 * 4 + b1 / 16 := ⟨_, rfl⟩
      obtain ⟨B1, hB1⟩ : ∃ B, B = b1 % 16 * 16 := ⟨_, rfl⟩
      obtain ⟨B2, hB2⟩ : ∃ B, B = 0 := ⟨_, rfl⟩
      have m0 : B0 < 256 := by omega
      have m1 : B1 < 256 := by omega
      have m2 : B2 < 256 := by omega
      have e2 : (V : Int) % 256 = (B2 : Int) := by omega
      have e1 : (V : Int) / 256 % 256 = (B1 : Int) := by omega
      have e0 : (V : Int) / 65536 = (B0 : Int) := by omega
      have H0 := Lib.hid hB0
      have H1 := Lib.hid hB1
      have H2 := Lib.hid hB2
      clear hV hB0 hB1 hB2
      obtain ⟨u0, g0⟩ : ∃ u, wc.cell? ⟨g, o, none⟩ = some u := ⟨_, (HBc.out.cell (o)).trans (List.getElem?_eq_getElem (by simp only [List.length_cons, List.length_nil] at hrm; omega))⟩
      have z0 : wc.frozen? ⟨g, o, none⟩ = false := HBc.out.frozen _
      have hm1 : 1 ≤ m := by simpa using hrm
      have hng : ¬ w.heap.size = g := by omega
      have hng2 : ¬ g = w.heap.size := by omega
      have heg1 : ¬ ge = g := HEG.out
      have heg2 : ¬ ge = w.heap.size := by have := HE.out.lt; omega
      have heg3 : ¬ g = ge := fun h => HEG.out h.symm
      have heg4 : ¬ w.heap.size = ge := fun h => heg2 h.symm
      have GW : Hid (w.grownBy wc (some g)) := below_grown HW.out
      have hB2 : (B2 : Int) = 0 := by have := H2.out; omega
      rw [hB2] at e2
      clear hB2
      cases st
      · go_wp2
        go_ret3
        have B9 := ((((HBc.out.far (p := ⟨w.heap.size, 2, none⟩) (by simpa using hng2) (.int .u8 0)).far (p := ⟨w.heap.size, 1, none⟩) (by simpa using hng2) (.int .u8 (B1 : Int))).far (p := ⟨w.heap.size, 0, none⟩) (by simpa using hng2) (.int .u8 (B0 : Int))).set_ (o) (.int .u8 (B0 : Int)))
        have G9 := (grown_set (grown_new (grown_new (grown_new GW.out (p := ⟨w.heap.size, 2, none⟩) (Nat.le_refl _) (.int .u8 0)) (p := ⟨w.heap.size, 1, none⟩) (Nat.le_refl _) (.int .u8 (B1 : Int))) (p := ⟨w.heap.size, 0, none⟩) (Nat.le_refl _) (.int .u8 (B0 : Int))) (o) (.int .u8 (B0 : Int)))
        show QPost _ _ _ _ _ _ _ _ (.returned (.tuple #[.int .i64 (k : Int), .int .i64 1, errV _ _])) _
        exact qpost_2 HQ2.out (B0 := B0) B9 (by omega) G9 H0.out m0 (Or.inl rfl)
      · by_cases hu : b1 % 16 = 0
        · have HU := Lib.hid hu
          have hB1 : (B1 : Int) = 0 := by have := H1.out; omega
          rw [hB1] at e1
          clear hu hB1
          go_upto_region 53 with fail
          generalize hy : ((((wc.setCell ⟨w.heap.size, 2, none⟩ (.int .u8 0)).setCell ⟨w.heap.size, 1, none⟩ (.int .u8 0)).setCell ⟨w.heap.size, 0, none⟩ (.int .u8 (B0 : Int))).setCell ⟨g, o, none⟩ (.int .u8 (B0 : Int))) = y
          have B8 := ((((HBc.out.far (p := ⟨w.heap.size, 2, none⟩) (by simpa using hng2) (.int .u8 0)).far (p := ⟨w.heap.size, 1, none⟩) (by simpa using hng2) (.int .u8 0)).far (p := ⟨w.heap.size, 0, none⟩) (by simpa using hng2) (.int .u8 (B0 : Int))).set_ (o) (.int .u8 (B0 : Int)))
          rw [hy] at B8
          have HB9 := Lib.hid B8
          clear B8
          have HG9 : Hid (w.grownBy y (some g)) := by have := (grown_set (grown_new (grown_new (grown_new GW.out (p := ⟨w.heap.size, 2, none⟩) (Nat.le_refl _) (.int .u8 0)) (p := ⟨w.heap.size, 1, none⟩) (Nat.le_refl _) (.int .u8 0)) (p := ⟨w.heap.size, 0, none⟩) (Nat.le_refl _) (.int .u8 (B0 : Int))) (o) (.int .u8 (B0 : Int))); rw [hy] at this; exact this
          have D9 := ((((HDB.out.set_ 2 (.int .u8 0)).set_ 1 (.int .u8 0)).set_ 0 (.int .u8 (B0 : Int))).far (p := ⟨g, o, none⟩) (by simpa using hng) (.int .u8 (B0 : Int)))
          rw [hy] at D9
          have E9 : Blk y ge 74 (encTo a 64 [.int .i32 p, .bool true]) := by have := ((((HEc.out.far (p := ⟨w.heap.size, 2, none⟩) (by simpa using heg2) (.int .u8 0)).far (p := ⟨w.heap.size, 1, none⟩) (by simpa using heg2) (.int .u8 0)).far (p := ⟨w.heap.size, 0, none⟩) (by simpa using heg2) (.int .u8 (B0 : Int))).far (p := ⟨g, o, none⟩) (by simpa using heg1) (.int .u8 (B0 : Int))); rw [hy] at this; exact this
          have c1 : y.cell? ⟨w.heap.size, 1, none⟩ = some (.int .u8 0) := D9.cell 1
          have c2 : y.cell? ⟨w.heap.size, 2, none⟩ = some (.int .u8 0) := D9.cell 2
          have c3 : y.cell? ⟨ge, 321, none⟩ = some (.bool true) := (E9.cell 321).trans (encTo_tail a 64 _ 64 1 HZ.out)
          clear D9 E9 hy d0 d1 d2 d3 f0 f1 f2 hst
          go_wp2
          go_ret3
          have B9 := HB9.out
          have G9 := HG9.out
          show QPost _ _ _ _ _ _ _ _ (.returned (.tuple #[.int .i64 (k : Int), .int .i64 1, errV _ _])) _
          exact qpost_2 HQ2.out (B0 := B0) B9 (by omega) G9 H0.out m0 (Or.inr HU.out)
        · have hB0 : ((B1 : Int) != 0) = true := by have := H1.out; rw [bne_iff_ne]; omega
          have HU := Lib.hid hu
          clear hu
          go_upto_region 53 with fail
          generalize hy : ((((wc.setCell ⟨w.heap.size, 2, none⟩ (.int .u8 0)).setCell ⟨w.heap.size, 1, none⟩ (.int .u8 (B1 : Int))).setCell ⟨w.heap.size, 0, none⟩ (.int .u8 (B0 : Int))).setCell ⟨g, o, none⟩ (.int .u8 (B0 : Int))) = y
          have B8 := ((((HBc.out.far (p := ⟨w.heap.size, 2, none⟩) (by simpa using hng2) (.int .u8 0)).far (p := ⟨w.heap.size, 1, none⟩) (by simpa using hng2) (.int .u8 (B1 : Int))).far (p := ⟨w.heap.size, 0, none⟩) (by simpa using hng2) (.int .u8 (B0 : Int))).set_ (o) (.int .u8 (B0 : Int)))
          rw [hy] at B8
          have HB9 := Lib.hid B8
          clear B8
          have HG9 : Hid (w.grownBy y (some g)) := by have := (grown_set (grown_new (grown_new (grown_new GW.out (p := ⟨w.heap.size, 2, none⟩) (Nat.le_refl _) (.int .u8 0)) (p := ⟨w.heap.size, 1, none⟩) (Nat.le_refl _) (.int .u8 (B1 : Int))) (p := ⟨w.heap.size, 0, none⟩) (Nat.le_refl _) (.int .u8 (B0 : Int))) (o) (.int .u8 (B0 : Int))); rw [hy] at this; exact this
          have D9 := ((((HDB.out.set_ 2 (.int .u8 0)).set_ 1 (.int .u8 (B1 : Int))).set_ 0 (.int .u8 (B0 : Int))).far (p := ⟨g, o, none⟩) (by simpa using hng) (.int .u8 (B0 : Int)))
          rw [hy] at D9
          have E9 : Blk y ge 74 (encTo a 64 [.int .i32 p, .bool true]) := by have := ((((HEc.out.far (p := ⟨w.heap.size, 2, none⟩) (by simpa using heg2) (.int .u8 0)).far (p := ⟨w.heap.size, 1, none⟩) (by simpa using heg2) (.int .u8 (B1 : Int))).far (p := ⟨w.heap.size, 0, none⟩) (by simpa using heg2) (.int .u8 (B0 : Int))).far (p := ⟨g, o, none⟩) (by simpa using heg1) (.int .u8 (B0 : Int))); rw [hy] at this; exact this
          have c1 : y.cell? ⟨w.heap.size, 1, none⟩ = some (.int .u8 (B1 : Int)) := D9.cell 1
          have c2 : y.cell? ⟨w.heap.size, 2, none⟩ = some (.int .u8 0) := D9.cell 2
          have c3 : y.cell? ⟨ge, 321, none⟩ = some (.bool true) := (E9.cell 321).trans (encTo_tail a 64 _ 64 1 HZ.out)
          clear D9 E9 hy d0 d1 d2 d3 f0 f1 f2 hst
          go_wp2
          go_ret3
          have B9 := HB9.out
          have G9 := HG9.out
          show QPost _ _ _ _ _ _ _ _ (.returned (.tuple #[.int .i64 (k : Int), .int .i64 0, .iface _ (.int .i64 ((k : Int) - 2))])) _
          exact qpost_2s HQ2.out m0 B9 G9 HU.out _ rfl

end Go.Proofs.Ytkiipbpcaakkoaa
