/-
  The contract of base64's Encode: what lies at the beginning of dst behind the call is the text of src; nothing else has turned. Conditions: dst is long enough, and lies apart from src.
-/
import Derived.Test.YteibdnaccganiaaEncI
import Derived.Test.YteibdnaccganiaaBits
namespace Go.Proofs.Yteibdnaccganiaa
open Go.RowKit

theorem arr64 : (Try.prog.info? 49).map (·.size) = some 64 := by kernel_rfl

set_option maxHeartbeats 1000000 in
set_option maxRecDepth 100000 in
theorem encode64_any (ge g o m mc c : Nat) (t : TypeId) (a : List UInt8) (p : Int) (st : Bool) (D A : Option Addr) (l : List UInt8) (cur : List Value) (w : World)
    (he : Blk w ge 52 (encTo a 64 [.int .i32 p, .bool st])) (hz : a.length = 64) (hp1 : -1 ≤ p) (hp2 : p ≤ 255) (hne : ge ≠ g)
    (hb : Blk w g t cur) (hD : 0 < m → D = some ⟨g, o, none⟩) (hfit : o + m ≤ cur.length) (hroom : lenN 6 p l.length ≤ m) (hmc : m ≤ mc) (hmx : mc ≤ maxLen)
    (hs : Rd w g A l) (hc : l.length ≤ c) (hcx : c ≤ maxLen) :
    Calls Try.prog 28 #[.pointer (some ⟨ge, 0, none⟩), .slice D m mc, .slice A l.length c] w fun e w' => e = .returned (.tuple #[]) ∧ Blk w' g t (splice cur o (Lib.byteCells (textOf 6 a p l))) ∧ w.grownBy w' (some g) := by
  unfold maxLen at hmx hcx
  have HE := Lib.hid he
  have HZ := Lib.hid hz
  have HB := Lib.hid hb
  have HD := Lib.hid hD
  have HS := Lib.hid hs
  clear he hz hb hD hs
  by_cases hl : l.length = 0
  · obtain rfl : l = [] := List.eq_nil_of_length_eq_zero hl
    rw [textOf6_nil, show Lib.byteCells [] = [] from rfl, splice_nil]
    go_enter Try.func28, Try.ntmps28
    go_wp2
    refine bodyPost_ret (results_none rfl _ _ _) rfl ⟨rfl, HB.out, grown_refl _ _⟩
  · have hl0 : (((l.length : Nat) : Int) == 0) = false := by simpa using hl
    have hlp : 0 < l.length := by omega
    clear hl
    have hce : (encTo a 64 [.int .i32 p, .bool st]).length = 322 := by rw [encTo_length, HZ.out]; rfl
    have HCE := Lib.hid hce
    clear hce
    obtain ⟨G, hG⟩ : ∃ G, G = splice cur o (Lib.byteCells (textOf 6 a p l)) := ⟨_, rfl⟩
    rw [← hG]
    have HG := Lib.hid hG
    clear hG
    go_enter Try.func28, Try.ntmps28
    go_wp2_with ((with_reducible refine wpList_load_arr rfl 49 _ rfl ge 0 64 _ _ HE.out _ Try.underlying49 arr64 ?_ ?_ ?_); (rw [HCE.out]; omega); rfl; intro v15)
    simp only [Act.put, List.setIfInBounds_toArray, List.set_cons_succ, List.set_cons_zero]
    go_loopw [1, 2] (fun d s wr => ∃ (D A : Option Addr) (m mc n c o : Nat) (rest : List UInt8) (cur : List Value), d = .slice D m mc ∧ s = .slice A n c ∧ Hid (rest.length = n) ∧ n ≤ c ∧ c ≤ 2 ^ 63 - 1 ∧ m ≤ mc ∧ mc ≤ 2 ^ 63 - 1 ∧ Hid (Rd wr g A rest) ∧ Hid (0 < m → D = some ⟨g, o, none⟩) ∧ Hid (Blk wr g t cur) ∧ o + m ≤ cur.length ∧ lenN 6 p n ≤ m ∧ Hid (splice cur o (Lib.byteCells (textOf 6 a p rest)) = G) ∧ Hid (w.grownBy wr (some g))) (fun _ s _ => lenOfV s)
    case atStart => exact ⟨D, A, m, mc, l.length, c, o, l, cur, rfl, rfl, rfl, hc, hcx, hmc, hmx, HS, HD, HB, hfit, hroom, HG.out.symm, ⟨rfl, rfl, rfl, Nat.le_refl _, fun _ _ _ => rfl⟩⟩
    case round =>
      clear hroom hmc hmx hcx hc hfit hlp hl0 HD HS HB HG
      obtain ⟨D, A, m, mc, n, c, o, rest, cur, rfl, rfl, hn, hc, hcx, hmc, hmx, HS, HD, HB, hfit, hroom, HG, HW⟩ := hrel
      by_cases h3 : 3 ≤ n
      · obtain ⟨x, y, z, rest, rfl⟩ : ∃ x y z r, rest = x :: y :: z :: r := by
          match rest, hn.out with
          | x :: y :: z :: r, _ => exact ⟨x, y, z, r, rfl⟩
          | [x, y], h => simp at h; omega
          | [x], h => simp at h; omega
          | [], h => simp at h; omega
        have hm4 : 4 ≤ m := by have : 4 ≤ lenN 6 p n := by unfold lenN charsN; omega
                               omega
        obtain ⟨b, off, hA, hbg, hcs⟩ := HS.out (by simp)
        have hD := HD.out (by omega)
        subst hA hD
        have cx : wr.cell? ⟨b, off, none⟩ = some (.int .u8 (x.toNat : Int)) := hcs 0 x rfl
        have cy : wr.cell? ⟨b, off + 1, none⟩ = some (.int .u8 (y.toNat : Int)) := hcs 1 y rfl
        have cz : wr.cell? ⟨b, off + 2, none⟩ = some (.int .u8 (z.toNat : Int)) := hcs 2 z rfl
        clear hcs
        have hx := x.toNat_lt
        have hy := y.toNat_lt
        have hz := z.toNat_lt
        go_wp2
        go_quiet (fail)
        rw [three64 _ _ _ hx hy hz]
        obtain ⟨V, hV⟩ : ∃ V : Nat, V = x.toNat * 65536 + y.toNat * 256 + z.toNat := ⟨_, rfl⟩
        rw [← hV]
        have hV1 : V < 16777216 := by omega
        obtain ⟨i0, h0⟩ : ∃ i, i = x.toNat / 4 := ⟨_, rfl⟩
        obtain ⟨i1, h1⟩ : ∃ i, i = x.toNat % 4 * 16 + y.toNat / 16 := ⟨_, rfl⟩
        obtain ⟨i2, h2⟩ : ∃ i, i = y.toNat % 16 * 4 + z.toNat / 64 := ⟨_, rfl⟩
        obtain ⟨i3, h3'⟩ : ∃ i, i = z.toNat % 64 := ⟨_, rfl⟩
        have l0 : i0 < 64 := by omega
        have l1 : i1 < 64 := by omega
        have l2 : i2 < 64 := by omega
        have l3 : i3 < 64 := by omega
        have e0 : bits BinOp.and IntKind.u64 ((V : Int) / 262144) 63 = (i0 : Int) := by rw [and63 _ (by omega) (by omega)]; omega
        have e1 : bits BinOp.and IntKind.u64 ((V : Int) / 4096) 63 = (i1 : Int) := by rw [and63 _ (by omega) (by omega)]; omega
        have e2 : bits BinOp.and IntKind.u64 ((V : Int) / 64) 63 = (i2 : Int) := by rw [and63 _ (by omega) (by omega)]; omega
        have e3 : bits BinOp.and IntKind.u64 (V : Int) 63 = (i3 : Int) := by rw [and63 _ (by omega) (by omega)]; omega
        have HI := Lib.hid (And.intro h0 (And.intro h1 (And.intro h2 h3')))
        clear h0 h1 h2 h3' hV
        have hEr := HE.out.grown HW.out (by simpa using hne)
        have f0 : wr.cell? ⟨ge, i0, none⟩ = some (.int .u8 ((letter a i0).toNat : Int)) := (hEr.cell _).trans (enc_letter a 64 _ i0 (by rw [HZ.out]; exact l0))
        have f1 : wr.cell? ⟨ge, i1, none⟩ = some (.int .u8 ((letter a i1).toNat : Int)) := (hEr.cell _).trans (enc_letter a 64 _ i1 (by rw [HZ.out]; exact l1))
        have f2 : wr.cell? ⟨ge, i2, none⟩ = some (.int .u8 ((letter a i2).toNat : Int)) := (hEr.cell _).trans (enc_letter a 64 _ i2 (by rw [HZ.out]; exact l2))
        have f3 : wr.cell? ⟨ge, i3, none⟩ = some (.int .u8 ((letter a i3).toNat : Int)) := (hEr.cell _).trans (enc_letter a 64 _ i3 (by rw [HZ.out]; exact l3))
        clear hEr
        have hcell : ∀ j, j < 4 → ∃ u, wr.cell? ⟨g, o + j, none⟩ = some u := fun j hj => ⟨_, (HB.out.cell (o + j)).trans (List.getElem?_eq_getElem (by omega))⟩
        obtain ⟨u0, g0⟩ := hcell 0 (by omega)
        obtain ⟨u1, g1⟩ := hcell 1 (by omega)
        obtain ⟨u2, g2⟩ := hcell 2 (by omega)
        obtain ⟨u3, g3⟩ := hcell 3 (by omega)
        rw [Nat.add_zero] at g0
        clear hcell
        have z0 : wr.frozen? ⟨g, o, none⟩ = false := HB.out.frozen _
        have z1 : wr.frozen? ⟨g, o + 1, none⟩ = false := HB.out.frozen _
        have z2 : wr.frozen? ⟨g, o + 2, none⟩ = false := HB.out.frozen _
        have z3 : wr.frozen? ⟨g, o + 3, none⟩ = false := HB.out.frozen _
        by_cases hc3 : c = 3
        all_goals
          by_cases hm4' : mc = 4
          all_goals
            go_wp2
            go_roundw
            case rel =>
              have B1 := (((((HB.out.drewN nq).set_ o (Value.int .u8 ((letter a i0).toNat : Int))).set_ (o + 1) (Value.int .u8 ((letter a i1).toNat : Int))).set_ (o + 2) (Value.int .u8 ((letter a i2).toNat : Int))).set_ (o + 3) (Value.int .u8 ((letter a i3).toNat : Int)))
              have W1 := grown_set (grown_set (grown_set (grown_set (grown_drewN (grown_refl wr (some g)) nq) o (Value.int .u8 ((letter a i0).toNat : Int))) (o + 1) (Value.int .u8 ((letter a i1).toNat : Int))) (o + 2) (Value.int .u8 ((letter a i2).toNat : Int))) (o + 3) (Value.int .u8 ((letter a i3).toNat : Int))
              have hn' := hn.out
              simp only [List.length_cons] at hn'
              have hstep := lenN6_step p rest.length
              have hroom' : lenN 6 p rest.length + 4 ≤ m := by rw [← hstep, hn']; exact hroom
              refine ⟨_, _, m - 4, _, n - 3, _, o + 4, rest, _, rfl, rfl, (show rest.length = n - 3 by omega), by omega, by omega, by omega, by omega, (((HS.out.grown W1).drop 3 _ (fun hk => ?_)) : Rd _ _ _ ((x :: y :: z :: rest).drop 3)), (fun hm => ?_), B1, ?_, ?_, ?_, grown_trans HW.out W1⟩
              · first | rfl | (simp only [List.length_cons] at hk; omega)
              · first | rfl | omega
              · simp only [List.length_set]; omega
              · have e : n - 3 = rest.length := by omega
                rw [e]; omega
              · show _ = _
                rw [splice_set4 _ _ _ _ _ _ _ (by rw [Lib.byteCells_length, textOf_length6]; omega), ← HG.out, textOf6_step, HI.out.1, HI.out.2.1, HI.out.2.2.1, HI.out.2.2.2]
                rfl
            case measure => simp [lenOfV]; omega
      · have hEr := HE.out.grown HW.out (by simpa using hne)
        have hpc : wr.cell? ⟨ge, 320, none⟩ = some (.int .i32 p) := (hEr.cell 320).trans (encTo_tail a 64 _ 64 0 HZ.out)
        have HER := Lib.hid hEr
        clear hEr
        have hrl := hn.out
        rcases (by omega : n = 0 ∨ n = 1 ∨ n = 2) with rfl | rfl | rfl
        · obtain rfl : rest = [] := List.eq_nil_of_length_eq_zero hrl
          have hg := HG.out
          rw [textOf6_nil, show Lib.byteCells [] = [] from rfl, splice_nil] at hg
          have HGG := Lib.hid hg
          clear hg hrl
          go_wp2
          refine bodyPost_ret (results_none rfl _ _ _) rfl ⟨rfl, ?_, HW.out⟩
          rw [← HGG.out]; exact HB.out
        · obtain ⟨x, rfl⟩ : ∃ x, rest = [x] := by
            match rest, hrl with
            | [x], _ => exact ⟨x, rfl⟩
          have hm2 : 2 ≤ m := by have : 2 ≤ lenN 6 p 1 := by unfold lenN; rw [show charsN 6 1 = 2 from rfl]; omega
                                 omega
          obtain ⟨b, off, hA, hbg, hcs⟩ := HS.out (by simp)
          have hD := HD.out (by omega)
          subst hA hD
          have cx : wr.cell? ⟨b, off, none⟩ = some (.int .u8 (x.toNat : Int)) := hcs 0 x rfl
          have hx := x.toNat_lt
          clear hcs hrl
          obtain ⟨V, hV⟩ : ∃ V : Nat, V = x.toNat * 65536 := ⟨_, rfl⟩
          have hV1 : V < 16777216 := by omega
          obtain ⟨i0, h0⟩ : ∃ i, i = x.toNat / 4 := ⟨_, rfl⟩
          have l0 : i0 < 64 := by omega
          obtain ⟨i1, h1⟩ : ∃ i, i = x.toNat % 4 * 16 := ⟨_, rfl⟩
          have l1 : i1 < 64 := by omega
          have e0 : bits BinOp.and IntKind.u64 ((V : Int) / 262144) 63 = (i0 : Int) := by rw [and63 _ (by omega) (by omega)]; omega
          have e1 : bits BinOp.and IntKind.u64 ((V : Int) / 4096) 63 = (i1 : Int) := by rw [and63 _ (by omega) (by omega)]; omega
          have HI := Lib.hid (And.intro h0 h1)
          have HVV := Lib.hid hV
          clear h0 h1 hV
          have f0 : wr.cell? ⟨ge, i0, none⟩ = some (.int .u8 ((letter a i0).toNat : Int)) := (HER.out.cell _).trans (enc_letter a 64 _ i0 (by rw [HZ.out]; exact l0))
          have f1 : wr.cell? ⟨ge, i1, none⟩ = some (.int .u8 ((letter a i1).toNat : Int)) := (HER.out.cell _).trans (enc_letter a 64 _ i1 (by rw [HZ.out]; exact l1))
          have hcell : ∀ j, j < m → ∃ u, wr.cell? ⟨g, o + j, none⟩ = some u := fun j hj => ⟨_, (HB.out.cell (o + j)).trans (List.getElem?_eq_getElem (by omega))⟩
          have HCELL := Lib.hid hcell
          obtain ⟨u0, g0⟩ := hcell 0 (by omega)
          obtain ⟨u1, g1⟩ := hcell 1 (by omega)
          rw [Nat.add_zero] at g0
          clear hcell
          have z0 : wr.frozen? ⟨g, o, none⟩ = false := HB.out.frozen _
          have z1 : wr.frozen? ⟨g, o + 1, none⟩ = false := HB.out.frozen _
          have z2 : wr.frozen? ⟨g, o + 2, none⟩ = false := HB.out.frozen _
          have z3 : wr.frozen? ⟨g, o + 3, none⟩ = false := HB.out.frozen _
          by_cases hpn : p = -1
          · have hpt : (p != -1) = false := by simpa using hpn
            have HPN := Lib.hid hpn
            clear hpn
            have hVV : (x.toNat : Int) * 65536 = (V : Int) := by rw [HVV.out]; omega
            go_wp2
            go_end0
            refine ⟨rfl, ?_, (grown_set (grown_set HW.out (o) (Value.int .u8 ((letter a i0).toNat : Int))) (o + 1) (Value.int .u8 ((letter a i1).toNat : Int)))⟩
            have B1 := ((HB.out.set_ (o) (Value.int .u8 ((letter a i0).toNat : Int))).set_ (o + 1) (Value.int .u8 ((letter a i1).toNat : Int)))
            rw [sets2_is _ _ _ _ (by omega)] at B1
            rw [← HG.out, textOf6_one, if_pos (by have := HPN.out; omega), ← HI.out.1, ← HI.out.2]
            exact B1
          · have hpt : (p != -1) = true := by simpa using hpn
            have hp0 : 0 ≤ p := by omega
            have hm4 : 4 ≤ m := by have : 4 ≤ lenN 6 p 1 := by unfold lenN padN; rw [if_neg (by omega), show charsN 6 1 = 2 from rfl, show grpN 6 = 4 from rfl]; omega
                                   omega
            clear hpn
            obtain ⟨u2, g2⟩ := HCELL.out 2 (by omega)
            obtain ⟨u3, g3⟩ := HCELL.out 3 (by omega)
            have hVV : (x.toNat : Int) * 65536 = (V : Int) := by rw [HVV.out]; omega
            go_wp2
            go_end0
            refine ⟨rfl, ?_, (grown_set (grown_set (grown_set (grown_set HW.out (o) (Value.int .u8 ((letter a i0).toNat : Int))) (o + 1) (Value.int .u8 ((letter a i1).toNat : Int))) (o + 2) (Value.int .u8 p)) (o + 3) (Value.int .u8 p))⟩
            have B1 := ((((HB.out.set_ (o) (Value.int .u8 ((letter a i0).toNat : Int))).set_ (o + 1) (Value.int .u8 ((letter a i1).toNat : Int))).set_ (o + 2) (Value.int .u8 p)).set_ (o + 3) (Value.int .u8 p))
            rw [sets4_is _ _ _ _ _ _ (by omega)] at B1
            have hpb := padB_toNat p hp0 hp2
            rw [← HG.out, textOf6_one, if_neg (by omega), ← HI.out.1, ← HI.out.2]
            simp only [Lib.byteCells, List.map_cons, List.map_nil, hpb]
            exact B1
        · obtain ⟨x, y, rfl⟩ : ∃ x y, rest = [x, y] := by
            match rest, hrl with
            | [x, y], _ => exact ⟨x, y, rfl⟩
          have hm3 : 3 ≤ m := by have : 3 ≤ lenN 6 p 2 := by unfold lenN; rw [show charsN 6 2 = 3 from rfl]; omega
                                 omega
          obtain ⟨b, off, hA, hbg, hcs⟩ := HS.out (by simp)
          have hD := HD.out (by omega)
          subst hA hD
          have cx : wr.cell? ⟨b, off, none⟩ = some (.int .u8 (x.toNat : Int)) := hcs 0 x rfl
          have hx := x.toNat_lt
          have cy : wr.cell? ⟨b, off + 1, none⟩ = some (.int .u8 (y.toNat : Int)) := hcs 1 y rfl
          have hy := y.toNat_lt
          clear hcs hrl
          obtain ⟨V, hV⟩ : ∃ V : Nat, V = x.toNat * 65536 + y.toNat * 256 := ⟨_, rfl⟩
          have hV1 : V < 16777216 := by omega
          obtain ⟨i0, h0⟩ : ∃ i, i = x.toNat / 4 := ⟨_, rfl⟩
          have l0 : i0 < 64 := by omega
          obtain ⟨i1, h1⟩ : ∃ i, i = x.toNat % 4 * 16 + y.toNat / 16 := ⟨_, rfl⟩
          have l1 : i1 < 64 := by omega
          obtain ⟨i2, h2⟩ : ∃ i, i = y.toNat % 16 * 4 := ⟨_, rfl⟩
          have l2 : i2 < 64 := by omega
          have e0 : bits BinOp.and IntKind.u64 ((V : Int) / 262144) 63 = (i0 : Int) := by rw [and63 _ (by omega) (by omega)]; omega
          have e1 : bits BinOp.and IntKind.u64 ((V : Int) / 4096) 63 = (i1 : Int) := by rw [and63 _ (by omega) (by omega)]; omega
          have e2 : bits BinOp.and IntKind.u64 ((V : Int) / 64) 63 = (i2 : Int) := by rw [and63 _ (by omega) (by omega)]; omega
          have HI := Lib.hid (And.intro h0 (And.intro h1 h2))
          have HVV := Lib.hid hV
          clear h0 h1 h2 hV
          have f0 : wr.cell? ⟨ge, i0, none⟩ = some (.int .u8 ((letter a i0).toNat : Int)) := (HER.out.cell _).trans (enc_letter a 64 _ i0 (by rw [HZ.out]; exact l0))
          have f1 : wr.cell? ⟨ge, i1, none⟩ = some (.int .u8 ((letter a i1).toNat : Int)) := (HER.out.cell _).trans (enc_letter a 64 _ i1 (by rw [HZ.out]; exact l1))
          have f2 : wr.cell? ⟨ge, i2, none⟩ = some (.int .u8 ((letter a i2).toNat : Int)) := (HER.out.cell _).trans (enc_letter a 64 _ i2 (by rw [HZ.out]; exact l2))
          have hcell : ∀ j, j < m → ∃ u, wr.cell? ⟨g, o + j, none⟩ = some u := fun j hj => ⟨_, (HB.out.cell (o + j)).trans (List.getElem?_eq_getElem (by omega))⟩
          have HCELL := Lib.hid hcell
          obtain ⟨u0, g0⟩ := hcell 0 (by omega)
          obtain ⟨u1, g1⟩ := hcell 1 (by omega)
          obtain ⟨u2, g2⟩ := hcell 2 (by omega)
          rw [Nat.add_zero] at g0
          clear hcell
          have z0 : wr.frozen? ⟨g, o, none⟩ = false := HB.out.frozen _
          have z1 : wr.frozen? ⟨g, o + 1, none⟩ = false := HB.out.frozen _
          have z2 : wr.frozen? ⟨g, o + 2, none⟩ = false := HB.out.frozen _
          have z3 : wr.frozen? ⟨g, o + 3, none⟩ = false := HB.out.frozen _
          by_cases hpn : p = -1
          · have hpt : (p != -1) = false := by simpa using hpn
            have HPN := Lib.hid hpn
            clear hpn
            go_wp2
            go_quiet (fail)
            rw [two64 _ _ hx hy, ← HVV.out]
            go_wp2
            go_end0
            refine ⟨rfl, ?_, (grown_set (grown_set (grown_set (grown_drewN HW.out nq) (o) (Value.int .u8 ((letter a i0).toNat : Int))) (o + 1) (Value.int .u8 ((letter a i1).toNat : Int))) (o + 2) (Value.int .u8 ((letter a i2).toNat : Int)))⟩
            have B1 := ((((HB.out.drewN nq).set_ (o) (Value.int .u8 ((letter a i0).toNat : Int))).set_ (o + 1) (Value.int .u8 ((letter a i1).toNat : Int))).set_ (o + 2) (Value.int .u8 ((letter a i2).toNat : Int)))
            rw [sets3_is _ _ _ _ _ (by omega)] at B1
            rw [← HG.out, textOf6_two, if_pos (by have := HPN.out; omega), ← HI.out.1, ← HI.out.2.1, ← HI.out.2.2]
            exact B1
          · have hpt : (p != -1) = true := by simpa using hpn
            have hp0 : 0 ≤ p := by omega
            have hm4 : 4 ≤ m := by have : 4 ≤ lenN 6 p 2 := by unfold lenN padN; rw [if_neg (by omega), show charsN 6 2 = 3 from rfl, show grpN 6 = 4 from rfl]; omega
                                   omega
            clear hpn
            obtain ⟨u3, g3⟩ := HCELL.out 3 (by omega)
            go_wp2
            go_quiet (fail)
            rw [two64 _ _ hx hy, ← HVV.out]
            go_wp2
            go_end0
            refine ⟨rfl, ?_, (grown_set (grown_set (grown_set (grown_set (grown_drewN HW.out nq) (o) (Value.int .u8 ((letter a i0).toNat : Int))) (o + 1) (Value.int .u8 ((letter a i1).toNat : Int))) (o + 2) (Value.int .u8 ((letter a i2).toNat : Int))) (o + 3) (Value.int .u8 p))⟩
            have B1 := (((((HB.out.drewN nq).set_ (o) (Value.int .u8 ((letter a i0).toNat : Int))).set_ (o + 1) (Value.int .u8 ((letter a i1).toNat : Int))).set_ (o + 2) (Value.int .u8 ((letter a i2).toNat : Int))).set_ (o + 3) (Value.int .u8 p))
            rw [sets4_is _ _ _ _ _ _ (by omega)] at B1
            have hpb := padB_toNat p hp0 hp2
            rw [← HG.out, textOf6_two, if_neg (by omega), ← HI.out.1, ← HI.out.2.1, ← HI.out.2.2]
            simp only [Lib.byteCells, List.map_cons, List.map_nil, hpb]
            exact B1

end Go.Proofs.Yteibdnaccganiaa
