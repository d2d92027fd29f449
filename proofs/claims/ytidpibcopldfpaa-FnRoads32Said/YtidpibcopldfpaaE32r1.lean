/-
  The contract of base32's Encode: what lies at the beginning of dst behind the call is the text of src; nothing else has turned. Conditions: dst is long enough, and lies apart from src.
-/
import Derived.Test.YtidpibcopldfpaaEncI
import Derived.Test.YtidpibcopldfpaaBits
import Derived.Test.YtidpibcopldfpaaBits5
import Derived.Test.YtidpibcopldfpaaE32p
import Derived.Deep.Cut
namespace Go.Proofs.Ytidpibcopldfpaa
open Go.RowKit
set_option linter.unusedVariables false

theorem r1l0 (x0 x1 x2 x3 x4 : Nat) (h0 : x0 < 256) (h1 : x1 < 256) (h2 : x2 < 256) (h3 : x3 < 256) (h4 : x4 < 256) : x0 / 8 < 32 := by omega
theorem r1e0 (x0 x1 x2 x3 x4 V L : Nat) (h0 : x0 < 256) (h1 : x1 < 256) (h2 : x2 < 256) (h3 : x3 < 256) (h4 : x4 < 256) (hV : V = x0 * 16777216 + x1 * 65536 + x2 * 256 + x3) (hL : L = (V % 16777216) * 256 + x4) : bits BinOp.and IntKind.u32 ((V : Int) / 134217728) 31 = ((x0 / 8 : Nat) : Int) := by rw [and31 _ (by omega) (by omega)]; omega
theorem r1l1 (x0 x1 x2 x3 x4 : Nat) (h0 : x0 < 256) (h1 : x1 < 256) (h2 : x2 < 256) (h3 : x3 < 256) (h4 : x4 < 256) : x0 % 8 * 4 + x1 / 64 < 32 := by omega
theorem r1e1 (x0 x1 x2 x3 x4 V L : Nat) (h0 : x0 < 256) (h1 : x1 < 256) (h2 : x2 < 256) (h3 : x3 < 256) (h4 : x4 < 256) (hV : V = x0 * 16777216 + x1 * 65536 + x2 * 256 + x3) (hL : L = (V % 16777216) * 256 + x4) : bits BinOp.and IntKind.u32 ((V : Int) / 4194304) 31 = ((x0 % 8 * 4 + x1 / 64 : Nat) : Int) := by rw [and31 _ (by omega) (by omega)]; omega
theorem r1l2 (x0 x1 x2 x3 x4 : Nat) (h0 : x0 < 256) (h1 : x1 < 256) (h2 : x2 < 256) (h3 : x3 < 256) (h4 : x4 < 256) : x1 % 64 / 2 < 32 := by omega
theorem r1e2 (x0 x1 x2 x3 x4 V L : Nat) (h0 : x0 < 256) (h1 : x1 < 256) (h2 : x2 < 256) (h3 : x3 < 256) (h4 : x4 < 256) (hV : V = x0 * 16777216 + x1 * 65536 + x2 * 256 + x3) (hL : L = (V % 16777216) * 256 + x4) : bits BinOp.and IntKind.u32 ((V : Int) / 131072) 31 = ((x1 % 64 / 2 : Nat) : Int) := by rw [and31 _ (by omega) (by omega)]; omega
theorem r1l3 (x0 x1 x2 x3 x4 : Nat) (h0 : x0 < 256) (h1 : x1 < 256) (h2 : x2 < 256) (h3 : x3 < 256) (h4 : x4 < 256) : x1 % 2 * 16 + x2 / 16 < 32 := by omega
theorem r1e3 (x0 x1 x2 x3 x4 V L : Nat) (h0 : x0 < 256) (h1 : x1 < 256) (h2 : x2 < 256) (h3 : x3 < 256) (h4 : x4 < 256) (hV : V = x0 * 16777216 + x1 * 65536 + x2 * 256 + x3) (hL : L = (V % 16777216) * 256 + x4) : bits BinOp.and IntKind.u32 ((V : Int) / 4096) 31 = ((x1 % 2 * 16 + x2 / 16 : Nat) : Int) := by rw [and31 _ (by omega) (by omega)]; omega
theorem r1l4 (x0 x1 x2 x3 x4 : Nat) (h0 : x0 < 256) (h1 : x1 < 256) (h2 : x2 < 256) (h3 : x3 < 256) (h4 : x4 < 256) : x2 % 16 * 2 + x3 / 128 < 32 := by omega
theorem r1e4 (x0 x1 x2 x3 x4 V L : Nat) (h0 : x0 < 256) (h1 : x1 < 256) (h2 : x2 < 256) (h3 : x3 < 256) (h4 : x4 < 256) (hV : V = x0 * 16777216 + x1 * 65536 + x2 * 256 + x3) (hL : L = (V % 16777216) * 256 + x4) : bits BinOp.and IntKind.u32 ((V : Int) / 128) 31 = ((x2 % 16 * 2 + x3 / 128 : Nat) : Int) := by rw [and31 _ (by omega) (by omega)]; omega
theorem r1l5 (x0 x1 x2 x3 x4 : Nat) (h0 : x0 < 256) (h1 : x1 < 256) (h2 : x2 < 256) (h3 : x3 < 256) (h4 : x4 < 256) : x3 % 128 / 4 < 32 := by omega
theorem r1e5 (x0 x1 x2 x3 x4 V L : Nat) (h0 : x0 < 256) (h1 : x1 < 256) (h2 : x2 < 256) (h3 : x3 < 256) (h4 : x4 < 256) (hV : V = x0 * 16777216 + x1 * 65536 + x2 * 256 + x3) (hL : L = (V % 16777216) * 256 + x4) : bits BinOp.and IntKind.u32 ((V : Int) / 4) 31 = ((x3 % 128 / 4 : Nat) : Int) := by rw [and31 _ (by omega) (by omega)]; omega
theorem r1l6 (x0 x1 x2 x3 x4 : Nat) (h0 : x0 < 256) (h1 : x1 < 256) (h2 : x2 < 256) (h3 : x3 < 256) (h4 : x4 < 256) : x3 % 4 * 8 + x4 / 32 < 32 := by omega
theorem r1e6 (x0 x1 x2 x3 x4 V L : Nat) (h0 : x0 < 256) (h1 : x1 < 256) (h2 : x2 < 256) (h3 : x3 < 256) (h4 : x4 < 256) (hV : V = x0 * 16777216 + x1 * 65536 + x2 * 256 + x3) (hL : L = (V % 16777216) * 256 + x4) : bits BinOp.and IntKind.u32 ((L : Int) / 32) 31 = ((x3 % 4 * 8 + x4 / 32 : Nat) : Int) := by rw [and31 _ (by omega) (by omega)]; omega
theorem r1l7 (x0 x1 x2 x3 x4 : Nat) (h0 : x0 < 256) (h1 : x1 < 256) (h2 : x2 < 256) (h3 : x3 < 256) (h4 : x4 < 256) : x4 % 32 < 32 := by omega
theorem r1e7 (x0 x1 x2 x3 x4 V L : Nat) (h0 : x0 < 256) (h1 : x1 < 256) (h2 : x2 < 256) (h3 : x3 < 256) (h4 : x4 < 256) (hV : V = x0 * 16777216 + x1 * 65536 + x2 * 256 + x3) (hL : L = (V % 16777216) * 256 + x4) : bits BinOp.and IntKind.u32 ((L : Int)) 31 = ((x4 % 32 : Nat) : Int) := by rw [and31 _ (by omega) (by omega)]; omega
theorem t1l0 (x0 : Nat) (h0 : x0 < 256) : x0 / 8 < 32 := by omega
theorem t1e0 (x0 : Nat) (h0 : x0 < 256) (W0 : Nat) (w0 : W0 = x0 * 16777216) : bits BinOp.and IntKind.u32 ((W0 : Int) / 134217728) 31 = ((x0 / 8 : Nat) : Int) := by rw [and31 _ (by omega) (by omega)]; omega
theorem t1l1 (x0 : Nat) (h0 : x0 < 256) : x0 % 8 * 4 < 32 := by omega
theorem t1e1 (x0 : Nat) (h0 : x0 < 256) (W0 : Nat) (w0 : W0 = x0 * 16777216) : bits BinOp.and IntKind.u32 ((W0 : Int) / 4194304) 31 = ((x0 % 8 * 4 : Nat) : Int) := by rw [and31 _ (by omega) (by omega)]; omega

set_option maxHeartbeats 20000000 in
set_option maxRecDepth 100000 in
theorem encode32_r1 (ge g o m mc c : Nat) (t : TypeId) (a : List UInt8) (p : Int) (D A : Option Addr) (l : List UInt8) (cur : List Value) (w : World)
    (he : Blk w ge 51 (encTo a 32 [.int .i32 p])) (hz : a.length = 32) (hp1 : -1 ≤ p) (hp2 : p ≤ 255) (hne : ge ≠ g)
    (hb : Blk w g t cur) (hD : 0 < m → D = some ⟨g, o, none⟩) (hfit : o + m ≤ cur.length) (hroom : lenN 5 p l.length ≤ m) (hmc : m ≤ mc) (hmx : mc ≤ maxLen)
    (hs : Rd w g A l) (hc : l.length ≤ c) (hcx : c ≤ maxLen) (hres : l.length % 5 = 1) :
    Calls Try.prog 28 #[.pointer (some ⟨ge, 0, none⟩), .slice D m mc, .slice A l.length c] w fun e w' => e = .returned (.tuple #[]) ∧ Blk w' g t (splice cur o (Lib.byteCells (textOf 5 a p l))) ∧ w.grownBy w' (some g) := by
  unfold maxLen at hmx hcx
  have HE := Lib.hid he
  have HZ := Lib.hid hz
  have HB := Lib.hid hb
  have HD := Lib.hid hD
  have HS := Lib.hid hs
  have HRES := Lib.hid hres
  clear he hz hb hD hs hres
  by_cases hl : l.length = 0
  · obtain rfl : l = [] := List.eq_nil_of_length_eq_zero hl
    rw [textOf5_nil, show Lib.byteCells [] = [] from rfl, splice_nil]
    go_enter Try.func28, Try.ntmps28
    go_wp2
    refine bodyPost_ret (results_none rfl _ _ _) rfl ⟨rfl, HB.out, grown_refl _ _⟩
  · have hl0 : (((l.length : Nat) : Int) == 0) = false := by simpa using hl
    have hlp : 0 < l.length := by omega
    clear hl
    have hce : (encTo a 32 [.int .i32 p]).length = 289 := by rw [encTo_length, HZ.out]; rfl
    have HCE := Lib.hid hce
    clear hce
    obtain ⟨G, hG⟩ : ∃ G, G = splice cur o (Lib.byteCells (textOf 5 a p l)) := ⟨_, rfl⟩
    rw [← hG]
    have HG := Lib.hid hG
    clear hG
    go_enter Try.func28, Try.ntmps28
    go_wp2_with ((with_reducible refine wpList_load_arr rfl 48 _ rfl ge 0 32 _ _ HE.out _ Try.underlying48 arr32 ?_ ?_ ?_); (rw [HCE.out]; omega); rfl; intro v15)
    simp only [Act.put, List.setIfInBounds_toArray, List.set_cons_succ, List.set_cons_zero]
    go_loopw [1, 2] (fun d s wr => ∃ (D A : Option Addr) (m mc n c o : Nat) (rest : List UInt8) (cur : List Value), d = .slice D m mc ∧ s = .slice A n c ∧ Hid (rest.length = n) ∧ n ≤ c ∧ c ≤ 2 ^ 63 - 1 ∧ m ≤ mc ∧ mc ≤ 2 ^ 63 - 1 ∧ Hid (Rd wr g A rest) ∧ Hid (0 < m → D = some ⟨g, o, none⟩) ∧ Hid (Blk wr g t cur) ∧ o + m ≤ cur.length ∧ lenN 5 p n ≤ m ∧ Hid (n % 5 = 1) ∧ Hid (splice cur o (Lib.byteCells (textOf 5 a p rest)) = G) ∧ Hid (w.grownBy wr (some g))) (fun _ s _ => lenOfV s)
    case atStart => exact ⟨D, A, m, mc, l.length, c, o, l, cur, rfl, rfl, rfl, hc, hcx, hmc, hmx, HS, HD, HB, hfit, hroom, HRES, HG.out.symm, ⟨rfl, rfl, rfl, Nat.le_refl _, fun _ _ _ => rfl⟩⟩
    case round =>
      clear hroom hmc hmx hcx hc hfit hlp hl0 HD HS HB HG HRES
      obtain ⟨D, A, m, mc, n, c, o, rest, cur, rfl, rfl, hn, hc, hcx, hmc, hmx, HS, HD, HB, hfit, hroom, HRES, HG, HW⟩ := hrel
      by_cases h5 : 5 ≤ n
      · obtain ⟨x0, x1, x2, x3, x4, rest, rfl⟩ : ∃ x0 x1 x2 x3 x4 r, rest = x0 :: x1 :: x2 :: x3 :: x4 :: r := by
          match rest, hn.out with
          | x0 :: x1 :: x2 :: x3 :: x4 :: r, _ => exact ⟨x0, x1, x2, x3, x4, r, rfl⟩
          | [_, _, _, _], h => simp at h; omega
          | [_, _, _], h => simp at h; omega
          | [_, _], h => simp at h; omega
          | [_], h => simp at h; omega
          | [], h => simp at h; omega
        have hm8 : 8 ≤ m := by have : 8 ≤ lenN 5 p n := by unfold lenN charsN; omega
                               omega
        obtain ⟨b, off, hA, hbg, hcs⟩ := HS.out (by simp)
        have hD := HD.out (by omega)
        subst hA hD
        have k0 : wr.cell? ⟨b, off, none⟩ = some (.int .u8 (x0.toNat : Int)) := hcs 0 x0 rfl
        have hx0 := x0.toNat_lt
        have k1 : wr.cell? ⟨b, off + 1, none⟩ = some (.int .u8 (x1.toNat : Int)) := hcs 1 x1 rfl
        have hx1 := x1.toNat_lt
        have k2 : wr.cell? ⟨b, off + 2, none⟩ = some (.int .u8 (x2.toNat : Int)) := hcs 2 x2 rfl
        have hx2 := x2.toNat_lt
        have k3 : wr.cell? ⟨b, off + 3, none⟩ = some (.int .u8 (x3.toNat : Int)) := hcs 3 x3 rfl
        have hx3 := x3.toNat_lt
        have k4 : wr.cell? ⟨b, off + 4, none⟩ = some (.int .u8 (x4.toNat : Int)) := hcs 4 x4 rfl
        have hx4 := x4.toNat_lt
        clear hcs
        go_wp2
        go_quiet (fail)
        rw [four32 _ _ _ _ hx0 hx1 hx2 hx3]
        obtain ⟨V, hV⟩ : ∃ V : Nat, V = x0.toNat * 16777216 + x1.toNat * 65536 + x2.toNat * 256 + x3.toNat := ⟨_, rfl⟩
        rw [← hV]
        have hV1 : V < 4294967296 := by omega
        obtain ⟨L, hL⟩ : ∃ L : Nat, L = (V % 16777216) * 256 + x4.toNat := ⟨_, rfl⟩
        have hL1 : L < 4294967296 := by omega
        have hLo : bits BinOp.or IntKind.u32 ((V : Int) * 256 % 4294967296) (x4.toNat : Int) = (L : Int) := by
          have h := or32 (V % 16777216) x4.toNat 8 (by omega) (by omega) (by omega)
          rw [hL, ← h]
          congr 1
          omega
        obtain ⟨i0, h0⟩ : ∃ i, i = x0.toNat / 8 := ⟨_, rfl⟩
        have l0 : i0 < 32 := by rw [h0]; exact r1l0 _ _ _ _ _ hx0 hx1 hx2 hx3 hx4
        obtain ⟨i1, h1⟩ : ∃ i, i = x0.toNat % 8 * 4 + x1.toNat / 64 := ⟨_, rfl⟩
        have l1 : i1 < 32 := by rw [h1]; exact r1l1 _ _ _ _ _ hx0 hx1 hx2 hx3 hx4
        obtain ⟨i2, h2⟩ : ∃ i, i = x1.toNat % 64 / 2 := ⟨_, rfl⟩
        have l2 : i2 < 32 := by rw [h2]; exact r1l2 _ _ _ _ _ hx0 hx1 hx2 hx3 hx4
        obtain ⟨i3, h3⟩ : ∃ i, i = x1.toNat % 2 * 16 + x2.toNat / 16 := ⟨_, rfl⟩
        have l3 : i3 < 32 := by rw [h3]; exact r1l3 _ _ _ _ _ hx0 hx1 hx2 hx3 hx4
        obtain ⟨i4, h4⟩ : ∃ i, i = x2.toNat % 16 * 2 + x3.toNat / 128 := ⟨_, rfl⟩
        have l4 : i4 < 32 := by rw [h4]; exact r1l4 _ _ _ _ _ hx0 hx1 hx2 hx3 hx4
        obtain ⟨i5, h5⟩ : ∃ i, i = x3.toNat % 128 / 4 := ⟨_, rfl⟩
        have l5 : i5 < 32 := by rw [h5]; exact r1l5 _ _ _ _ _ hx0 hx1 hx2 hx3 hx4
        obtain ⟨i6, h6⟩ : ∃ i, i = x3.toNat % 4 * 8 + x4.toNat / 32 := ⟨_, rfl⟩
        have l6 : i6 < 32 := by rw [h6]; exact r1l6 _ _ _ _ _ hx0 hx1 hx2 hx3 hx4
        obtain ⟨i7, h7⟩ : ∃ i, i = x4.toNat % 32 := ⟨_, rfl⟩
        have l7 : i7 < 32 := by rw [h7]; exact r1l7 _ _ _ _ _ hx0 hx1 hx2 hx3 hx4
        have e0 : bits BinOp.and IntKind.u32 ((V : Int) / 134217728) 31 = (i0 : Int) := by rw [h0]; exact r1e0 _ _ _ _ _ V L hx0 hx1 hx2 hx3 hx4 hV hL
        have e1 : bits BinOp.and IntKind.u32 ((V : Int) / 4194304) 31 = (i1 : Int) := by rw [h1]; exact r1e1 _ _ _ _ _ V L hx0 hx1 hx2 hx3 hx4 hV hL
        have e2 : bits BinOp.and IntKind.u32 ((V : Int) / 131072) 31 = (i2 : Int) := by rw [h2]; exact r1e2 _ _ _ _ _ V L hx0 hx1 hx2 hx3 hx4 hV hL
        have e3 : bits BinOp.and IntKind.u32 ((V : Int) / 4096) 31 = (i3 : Int) := by rw [h3]; exact r1e3 _ _ _ _ _ V L hx0 hx1 hx2 hx3 hx4 hV hL
        have e4 : bits BinOp.and IntKind.u32 ((V : Int) / 128) 31 = (i4 : Int) := by rw [h4]; exact r1e4 _ _ _ _ _ V L hx0 hx1 hx2 hx3 hx4 hV hL
        have e5 : bits BinOp.and IntKind.u32 ((V : Int) / 4) 31 = (i5 : Int) := by rw [h5]; exact r1e5 _ _ _ _ _ V L hx0 hx1 hx2 hx3 hx4 hV hL
        have e6 : bits BinOp.and IntKind.u32 ((L : Int) / 32) 31 = (i6 : Int) := by rw [h6]; exact r1e6 _ _ _ _ _ V L hx0 hx1 hx2 hx3 hx4 hV hL
        have e7 : bits BinOp.and IntKind.u32 ((L : Int)) 31 = (i7 : Int) := by rw [h7]; exact r1e7 _ _ _ _ _ V L hx0 hx1 hx2 hx3 hx4 hV hL
        have HI := Lib.hid (And.intro h0 (And.intro h1 (And.intro h2 (And.intro h3 (And.intro h4 (And.intro h5 (And.intro h6 (h7))))))))
        clear h0 h1 h2 h3 h4 h5 h6 h7 hV hL
        have hEr := HE.out.grown HW.out (by simpa using hne)
        have f0 : wr.cell? ⟨ge, i0, none⟩ = some (.int .u8 ((letter a i0).toNat : Int)) := (hEr.cell _).trans (enc_letter a 32 _ i0 (by rw [HZ.out]; exact l0))
        have f1 : wr.cell? ⟨ge, i1, none⟩ = some (.int .u8 ((letter a i1).toNat : Int)) := (hEr.cell _).trans (enc_letter a 32 _ i1 (by rw [HZ.out]; exact l1))
        have f2 : wr.cell? ⟨ge, i2, none⟩ = some (.int .u8 ((letter a i2).toNat : Int)) := (hEr.cell _).trans (enc_letter a 32 _ i2 (by rw [HZ.out]; exact l2))
        have f3 : wr.cell? ⟨ge, i3, none⟩ = some (.int .u8 ((letter a i3).toNat : Int)) := (hEr.cell _).trans (enc_letter a 32 _ i3 (by rw [HZ.out]; exact l3))
        have f4 : wr.cell? ⟨ge, i4, none⟩ = some (.int .u8 ((letter a i4).toNat : Int)) := (hEr.cell _).trans (enc_letter a 32 _ i4 (by rw [HZ.out]; exact l4))
        have f5 : wr.cell? ⟨ge, i5, none⟩ = some (.int .u8 ((letter a i5).toNat : Int)) := (hEr.cell _).trans (enc_letter a 32 _ i5 (by rw [HZ.out]; exact l5))
        have f6 : wr.cell? ⟨ge, i6, none⟩ = some (.int .u8 ((letter a i6).toNat : Int)) := (hEr.cell _).trans (enc_letter a 32 _ i6 (by rw [HZ.out]; exact l6))
        have f7 : wr.cell? ⟨ge, i7, none⟩ = some (.int .u8 ((letter a i7).toNat : Int)) := (hEr.cell _).trans (enc_letter a 32 _ i7 (by rw [HZ.out]; exact l7))
        clear hEr
        have hcell : ∀ j, j < 8 → ∃ u, wr.cell? ⟨g, o + j, none⟩ = some u := fun j hj => ⟨_, (HB.out.cell (o + j)).trans (List.getElem?_eq_getElem (by omega))⟩
        obtain ⟨u0, g0⟩ := hcell 0 (by omega)
        obtain ⟨u1, g1⟩ := hcell 1 (by omega)
        obtain ⟨u2, g2⟩ := hcell 2 (by omega)
        obtain ⟨u3, g3⟩ := hcell 3 (by omega)
        obtain ⟨u4, g4⟩ := hcell 4 (by omega)
        obtain ⟨u5, g5⟩ := hcell 5 (by omega)
        obtain ⟨u6, g6⟩ := hcell 6 (by omega)
        obtain ⟨u7, g7⟩ := hcell 7 (by omega)
        rw [Nat.add_zero] at g0
        clear hcell
        have z0 : wr.frozen? ⟨g, o, none⟩ = false := HB.out.frozen _
        have z1 : wr.frozen? ⟨g, o + 1, none⟩ = false := HB.out.frozen _
        have z2 : wr.frozen? ⟨g, o + 2, none⟩ = false := HB.out.frozen _
        have z3 : wr.frozen? ⟨g, o + 3, none⟩ = false := HB.out.frozen _
        have z4 : wr.frozen? ⟨g, o + 4, none⟩ = false := HB.out.frozen _
        have z5 : wr.frozen? ⟨g, o + 5, none⟩ = false := HB.out.frozen _
        have z6 : wr.frozen? ⟨g, o + 6, none⟩ = false := HB.out.frozen _
        have z7 : wr.frozen? ⟨g, o + 7, none⟩ = false := HB.out.frozen _
        by_cases hc3 : c = 5
        all_goals
          by_cases hm4' : mc = 8
          all_goals
            go_wp2
            go_roundw
            case rel =>
              have B1 := (((((((((HB.out.drewN nq).set_ (o) (Value.int .u8 ((letter a i0).toNat : Int))).set_ (o + 1) (Value.int .u8 ((letter a i1).toNat : Int))).set_ (o + 2) (Value.int .u8 ((letter a i2).toNat : Int))).set_ (o + 3) (Value.int .u8 ((letter a i3).toNat : Int))).set_ (o + 4) (Value.int .u8 ((letter a i4).toNat : Int))).set_ (o + 5) (Value.int .u8 ((letter a i5).toNat : Int))).set_ (o + 6) (Value.int .u8 ((letter a i6).toNat : Int))).set_ (o + 7) (Value.int .u8 ((letter a i7).toNat : Int)))
              have W1 := (grown_set (grown_set (grown_set (grown_set (grown_set (grown_set (grown_set (grown_set (grown_drewN (grown_refl wr (some g)) nq) (o) (Value.int .u8 ((letter a i0).toNat : Int))) (o + 1) (Value.int .u8 ((letter a i1).toNat : Int))) (o + 2) (Value.int .u8 ((letter a i2).toNat : Int))) (o + 3) (Value.int .u8 ((letter a i3).toNat : Int))) (o + 4) (Value.int .u8 ((letter a i4).toNat : Int))) (o + 5) (Value.int .u8 ((letter a i5).toNat : Int))) (o + 6) (Value.int .u8 ((letter a i6).toNat : Int))) (o + 7) (Value.int .u8 ((letter a i7).toNat : Int)))
              have hn' := hn.out
              simp only [List.length_cons] at hn'
              have hstep := lenN5_step p rest.length
              have hroom' : lenN 5 p rest.length + 8 ≤ m := by rw [← hstep, hn']; exact hroom
              refine ⟨_, _, m - 8, _, n - 5, _, o + 8, rest, _, rfl, rfl, (show rest.length = n - 5 by omega), by omega, by omega, by omega, by omega, (((HS.out.grown W1).drop 5 _ (fun hk => ?_)) : Rd _ _ _ ((x0 :: x1 :: x2 :: x3 :: x4 :: rest).drop 5)), (fun hm => ?_), B1, ?_, ?_, (show (n - 5) % 5 = 1 by have := HRES.out; omega), ?_, grown_trans HW.out W1⟩
              · first | rfl | (simp only [List.length_cons] at hk; omega)
              · first | rfl | omega
              · simp only [List.length_set]; omega
              · have e : n - 5 = rest.length := by omega
                rw [e]; omega
              · show _ = _
                rw [splice_set8 _ _ _ _ _ _ _ _ _ _ _ (by rw [Lib.byteCells_length, textOf_length5]; omega), ← HG.out, textOf5_step, HI.out.1, HI.out.2.1, HI.out.2.2.1, HI.out.2.2.2.1, HI.out.2.2.2.2.1, HI.out.2.2.2.2.2.1, HI.out.2.2.2.2.2.2.1, HI.out.2.2.2.2.2.2.2]
                rfl
            case measure => simp [lenOfV]; omega
      · have hEr := HE.out.grown HW.out (by simpa using hne)
        clear hEr
        have hrl := hn.out
        obtain rfl : n = 1 := by have := HRES.out; omega
        clear HRES h5
        · obtain ⟨x0, rfl⟩ : ∃ x0, rest = [x0] := by
            match rest, hrl with
            | [x0], _ => exact ⟨x0, rfl⟩
          have hmL : 2 ≤ m := by have : 2 ≤ lenN 5 p 1 := by unfold lenN; rw [show charsN 5 1 = 2 from rfl]; omega
                                 omega
          obtain ⟨b, off, hA, hbg, hcs⟩ := HS.out (by simp)
          have hD := HD.out (by omega)
          subst hA hD
          have k0 : wr.cell? ⟨b, off, none⟩ = some (.int .u8 (x0.toNat : Int)) := hcs 0 x0 rfl
          have hx0 := x0.toNat_lt
          clear hcs hrl
          obtain ⟨W0, w0⟩ : ∃ W : Nat, W = x0.toNat * 16777216 := ⟨_, rfl⟩
          have b0 : W0 < 4294967296 := by omega
          have o0 : bits BinOp.or IntKind.u32 0 ((x0.toNat : Int) * 16777216) = (W0 : Int) := by
            have h := or32_low x0.toNat 0 24 (by omega) (by omega) (by omega)
            rw [w0]; simpa using h
          obtain ⟨i0, h0⟩ : ∃ i, i = x0.toNat / 8 := ⟨_, rfl⟩
          have l0 : i0 < 32 := by rw [h0]; exact t1l0 _ hx0
          obtain ⟨i1, h1⟩ : ∃ i, i = x0.toNat % 8 * 4 := ⟨_, rfl⟩
          have l1 : i1 < 32 := by rw [h1]; exact t1l1 _ hx0
          have e0 : bits BinOp.and IntKind.u32 ((W0 : Int) / 134217728) 31 = (i0 : Int) := by rw [h0]; exact t1e0 _ hx0 _ w0
          have e1 : bits BinOp.and IntKind.u32 ((W0 : Int) / 4194304) 31 = (i1 : Int) := by rw [h1]; exact t1e1 _ hx0 _ w0
          have HI := Lib.hid (And.intro h0 (h1))
          have HVV := Lib.hid (w0)
          clear h0 h1 w0
          have K0 := Lib.hid k0
          clear k0
          have R0 : Hid (wr.grownBy wr (some g)) := grown_refl wr (some g)
          by_cases hpn : p = -1
          · have hpt : (p != -1) = false := by simpa using hpn
            have HPN := Lib.hid hpn
            clear hpn
            have HC0 := HE.out.grown HW.out (by simpa using hne)
            have c0 : wr.cell? ⟨b, off, none⟩ = some (.int .u8 (x0.toNat : Int)) := K0.out
            have f1 : wr.cell? ⟨ge, i1, none⟩ = some (.int .u8 ((letter a i1).toNat : Int)) := (HC0.cell _).trans (enc_letter a 32 _ i1 (by rw [HZ.out]; exact l1))
            obtain ⟨u1, g1⟩ : ∃ u, wr.cell? ⟨g, o + 1, none⟩ = some u := ⟨_, (HB.out.cell (o + 1)).trans (List.getElem?_eq_getElem (by omega))⟩
            have z1 : wr.frozen? ⟨g, o + 1, none⟩ = false := HB.out.frozen _
            have f0 : wr.cell? ⟨ge, i0, none⟩ = some (.int .u8 ((letter a i0).toNat : Int)) := (HC0.cell _).trans (enc_letter a 32 _ i0 (by rw [HZ.out]; exact l0))
            obtain ⟨u0, g0⟩ : ∃ u, wr.cell? ⟨g, o, none⟩ = some u := ⟨_, (HB.out.cell (o)).trans (List.getElem?_eq_getElem (by omega))⟩
            have z0 : wr.frozen? ⟨g, o, none⟩ = false := HB.out.frozen _
            have hpc : wr.cell? ⟨ge, 288, none⟩ = some (.int .i32 p) := (HC0.cell 288).trans (encTo_tail a 32 _ 32 0 HZ.out)
            clear HC0
            have B9 := ((HB.out.set_ (o + 1) (Value.int .u8 ((letter a i1).toNat : Int))).set_ (o) (Value.int .u8 ((letter a i0).toNat : Int)))
            have W9 := (grown_set (grown_set HW.out (o + 1) (Value.int .u8 ((letter a i1).toNat : Int))) (o) (Value.int .u8 ((letter a i0).toNat : Int)))
            have e : ((cur.set (o + 1) (Value.int .u8 ((letter a i1).toNat : Int))).set (o) (Value.int .u8 ((letter a i0).toNat : Int))) = splice cur o [(Value.int .u8 ((letter a i0).toNat : Int)), (Value.int .u8 ((letter a i1).toNat : Int))] := by
              rw [← splice_before cur (o) (Value.int .u8 ((letter a i0).toNat : Int)) [(Value.int .u8 ((letter a i1).toNat : Int))] (by simp; omega)]
              rw [← splice_before cur (o + 1) (Value.int .u8 ((letter a i1).toNat : Int)) [] (by simp; omega)]
              rw [splice_nil]
            rw [e] at B9
            have HB1 := Lib.hid B9
            have HW1 := Lib.hid W9
            clear B9 W9 e
            go_wp2
            go_end0
            refine ⟨rfl, ?_, HW1.out⟩
            rw [← HG.out, textOf5_short, show padN 5 p _ = 0 from by unfold padN; rw [if_pos (by have := HPN.out; omega)]]
            simp only [fives, List.map_cons, List.map_nil, List.replicate_zero, List.append_nil, ← HI.out.1, ← HI.out.2]
            exact HB1.out
          · have hpt : (p != -1) = true := by simpa using hpn
            have hp0 : 0 ≤ p := by omega
            have hpN : padN 5 p 1 = 6 := by unfold padN; rw [if_neg (by omega), show charsN 5 1 = 2 from rfl, show grpN 5 = 8 from rfl]
            have hm8 : 8 ≤ m := by have : 8 ≤ lenN 5 p 1 := by unfold lenN; rw [hpN, show charsN 5 1 = 2 from rfl]; omega
                                   omega
            clear hpn
            have HC0 := HE.out.grown HW.out (by simpa using hne)
            have c0 : wr.cell? ⟨b, off, none⟩ = some (.int .u8 (x0.toNat : Int)) := K0.out
            have f1 : wr.cell? ⟨ge, i1, none⟩ = some (.int .u8 ((letter a i1).toNat : Int)) := (HC0.cell _).trans (enc_letter a 32 _ i1 (by rw [HZ.out]; exact l1))
            obtain ⟨u1, g1⟩ : ∃ u, wr.cell? ⟨g, o + 1, none⟩ = some u := ⟨_, (HB.out.cell (o + 1)).trans (List.getElem?_eq_getElem (by omega))⟩
            have z1 : wr.frozen? ⟨g, o + 1, none⟩ = false := HB.out.frozen _
            have f0 : wr.cell? ⟨ge, i0, none⟩ = some (.int .u8 ((letter a i0).toNat : Int)) := (HC0.cell _).trans (enc_letter a 32 _ i0 (by rw [HZ.out]; exact l0))
            obtain ⟨u0, g0⟩ : ∃ u, wr.cell? ⟨g, o, none⟩ = some u := ⟨_, (HB.out.cell (o)).trans (List.getElem?_eq_getElem (by omega))⟩
            have z0 : wr.frozen? ⟨g, o, none⟩ = false := HB.out.frozen _
            have hpc : wr.cell? ⟨ge, 288, none⟩ = some (.int .i32 p) := (HC0.cell 288).trans (encTo_tail a 32 _ 32 0 HZ.out)
            clear HC0
            have B9 := ((HB.out.set_ (o + 1) (Value.int .u8 ((letter a i1).toNat : Int))).set_ (o) (Value.int .u8 ((letter a i0).toNat : Int)))
            have W9 := (grown_set (grown_set HW.out (o + 1) (Value.int .u8 ((letter a i1).toNat : Int))) (o) (Value.int .u8 ((letter a i0).toNat : Int)))
            have e : ((cur.set (o + 1) (Value.int .u8 ((letter a i1).toNat : Int))).set (o) (Value.int .u8 ((letter a i0).toNat : Int))) = splice cur o [(Value.int .u8 ((letter a i0).toNat : Int)), (Value.int .u8 ((letter a i1).toNat : Int))] := by
              rw [← splice_before cur (o) (Value.int .u8 ((letter a i0).toNat : Int)) [(Value.int .u8 ((letter a i1).toNat : Int))] (by simp; omega)]
              rw [← splice_before cur (o + 1) (Value.int .u8 ((letter a i1).toNat : Int)) [] (by simp; omega)]
              rw [splice_nil]
            rw [e] at B9
            have HB1 := Lib.hid B9
            have HW1 := Lib.hid W9
            clear B9 W9 e
            go_wp2
            have HPN := Lib.hid hpN
            clear hpN HCE hpc c0 f1 f0 g1 g0 z1 z0 e1 e0 o0 l0 l1 hpt
            go_loopw [10] (fun i wr2 => ∃ j : Nat, 2 ≤ j ∧ j ≤ 8 ∧ i = .int .i64 j ∧ Hid (Blk wr2 g t (splice cur o ([(Value.int .u8 ((letter a i0).toNat : Int)), (Value.int .u8 ((letter a i1).toNat : Int))] ++ List.replicate (j - 2) (Value.int .u8 p)))) ∧ Hid (w.grownBy wr2 (some g))) (fun i _ => 8 - (intOf i).toNat)
            case atStart => exact ⟨2, Nat.le_refl _, by omega, rfl, HB1, HW1⟩
            case round =>
              obtain ⟨j, hj1, hj2, rfl, HBj, HWj⟩ := hrel
              by_cases hj : j < 8
              · have hq : wr.cell? ⟨ge, 288, none⟩ = some (.int .i32 p) := ((HE.out.grown HWj.out (by simpa using hne)).cell 288).trans (encTo_tail a 32 _ 32 0 HZ.out)
                obtain ⟨u, hu⟩ : ∃ u, wr.cell? ⟨g, o + j, none⟩ = some u := ⟨_, (HBj.out.cell (o + j)).trans (List.getElem?_eq_getElem (by rw [splice_length _ _ _ (by simp; omega)]; omega))⟩
                have hz2 : wr.frozen? ⟨g, o + j, none⟩ = false := HBj.out.frozen _
                go_wp2
                go_roundw
                case rel =>
                  refine ⟨j + 1, by omega, by omega, by go_num, ?_, grown_set HWj.out _ _⟩
                  have h1 := HBj.out.set_ (o + j) (Value.int .u8 p)
                  have e := splice_after cur o (Value.int .u8 p) ([(Value.int .u8 ((letter a i0).toNat : Int)), (Value.int .u8 ((letter a i1).toNat : Int))] ++ List.replicate (j - 2) (Value.int .u8 p)) (by simp; omega)
                  rw [show o + ([(Value.int .u8 ((letter a i0).toNat : Int)), (Value.int .u8 ((letter a i1).toNat : Int))] ++ List.replicate (j - 2) (Value.int .u8 p)).length = o + j from by simp; omega, List.append_assoc, ← List.replicate_succ', show j - 2 + 1 = j + 1 - 2 from by omega] at e
                  rw [e] at h1
                  exact h1
                case measure => simp [intOf]; omega
              · obtain rfl : j = 8 := by omega
                go_wp2
                go_end0
                refine ⟨rfl, ?_, HWj.out⟩
                have hpb := padB_toNat p hp0 hp2
                rw [← HG.out, textOf5_short, show padN 5 p [x0].length = 6 from HPN.out]
                simp only [fives, List.map_cons, List.map_nil, Lib.byteCells, List.map_append, List.map_replicate, hpb, ← HI.out.1, ← HI.out.2]
                exact HBj.out

end Go.Proofs.Ytidpibcopldfpaa
