/-
  Contracts of the thin package's encoding64 and encoding32, of EncodedLen, DecodedLen and decodedLen: what they return. Conditions: the alphabet and the padding are valid; lengths between 0 and 2 ^ 61.
-/
import Derived.Test.YtkiipbpcaakkoaaEnc
import Derived.Test.YtkiipbpcaakkoaaSpecB
namespace Go.Proofs.Ytkiipbpcaakkoaa
open Go.RowKit

theorem size64 : (Try.prog.info? 74).map (·.size) = some 322 := by kernel_rfl
theorem encSize64 (a : List UInt8) (T : List Value) (hz : a.length = 64) (hT : T.length = 322 - 320) : (Try.prog.info? 74).map (·.size) = some (encTo a 64 T).length := by
  rw [size64, encTo_length, hz, hT]

theorem size32 : (Try.prog.info? 69).map (·.size) = some 289 := by kernel_rfl
theorem encSize32 (a : List UInt8) (T : List Value) (hz : a.length = 32) (hT : T.length = 289 - 288) : (Try.prog.info? 69).map (·.size) = some (encTo a 32 T).length := by
  rw [size32, encTo_length, hz, hT]

set_option maxHeartbeats 1000000 in
set_option maxRecDepth 100000 in
theorem encoding32 (s : ByteArray) (p : Int) (w : World) (hv : validP 5 s.data.toList p) :
    Calls Try.prog 20 #[.string s, .int .i64 p] w fun e w' => ∃ g, e = .returned (.pointer (some ⟨g, 0, none⟩)) ∧ w.heap.size ≤ g ∧ Blk w' g 69 (encTo s.data.toList 32 [.int .i32 p]) ∧ Below w.heap.size w w' := by
  have HV := Lib.hid hv
  have HI := Lib.hid (encSize32 s.data.toList [.int .i32 61] hv.1 rfl)
  have hp1 := hv.2.1
  have hp2 := hv.2.2.1
  clear hv
  go_enter Try.func20, Try.ntmps20
  go_wp2_with fail
  refine (newEncoding32 s p _ HV.out).mono ?_
  rintro e w1 ⟨rfl, hb1, hg1⟩
  have HB1 := Lib.hid hb1
  have HG1 := Lib.hid hg1
  clear hb1 hg1
  go_wp2_with ((with_reducible refine wpList_load_blk rfl 69 _ rfl w.heap.size _ _ HB1.out _ Try.underlying69 HI.out ?_ ?_); rfl)
  refine (withPadding32 s.data.toList p 61 _ HV.out).mono ?_
  rintro e w2 ⟨rfl, hb2, hg2⟩
  have HB2 := Lib.hid hb2
  have HG2 := Lib.hid hg2
  clear hb2 hg2
  go_wp2
  go_ret
  exact ⟨_, rfl, HG1.out.size, HB2.out, HG1.out.trans (HG2.out.mono HG1.out.size)⟩

set_option maxHeartbeats 1000000 in
set_option maxRecDepth 100000 in
theorem encoding64 (s : ByteArray) (p : Int) (st : Bool) (w : World) (hv : validP 6 s.data.toList p) :
    Calls Try.prog 23 #[.string s, .int .i64 p, .bool st] w fun e w' => ∃ g, e = .returned (.pointer (some ⟨g, 0, none⟩)) ∧ w.heap.size ≤ g ∧ Blk w' g 74 (encTo s.data.toList 64 [.int .i32 p, .bool st]) ∧ Below w.heap.size w w' := by
  have HV := Lib.hid hv
  have HI := Lib.hid (encSize64 s.data.toList [.int .i32 61, .bool false] hv.1 rfl)
  have HI2 := Lib.hid (encSize64 s.data.toList [.int .i32 p, .bool false] hv.1 rfl)
  have hp1 := hv.2.1
  have hp2 := hv.2.2.1
  clear hv
  go_enter Try.func23, Try.ntmps23
  go_wp2_with fail
  refine (newEncoding64 s p _ HV.out).mono ?_
  rintro e w1 ⟨rfl, hb1, hg1⟩
  have HB1 := Lib.hid hb1
  have HG1 := Lib.hid hg1
  clear hb1 hg1
  go_wp2_with ((with_reducible refine wpList_load_blk rfl 74 _ rfl w.heap.size _ _ HB1.out _ Try.underlying74 HI.out ?_ ?_); rfl)
  refine (withPadding64 s.data.toList p 61 _ HV.out).mono ?_
  rintro e w2 ⟨rfl, hb2, hg2⟩
  have HB2 := Lib.hid hb2
  have HG2 := Lib.hid hg2
  clear hb2 hg2
  cases st
  · go_wp2
    go_ret
    exact ⟨_, rfl, HG1.out.size, HB2.out, HG1.out.trans (HG2.out.mono HG1.out.size)⟩
  · go_wp2_with ((with_reducible refine wpList_load_blk rfl 74 _ rfl w1.heap.size _ _ HB2.out _ Try.underlying74 HI2.out ?_ ?_); rfl)
    refine (strict64 s.data.toList p _ HV.out.1).mono ?_
    rintro e w3 ⟨rfl, hb3, hg3⟩
    have HB3 := Lib.hid hb3
    have HG3 := Lib.hid hg3
    clear hb3 hg3
    go_wp2
    go_ret
    have hs := Nat.le_trans HG1.out.size HG2.out.size
    exact ⟨_, rfl, hs, HB3.out, (HG1.out.trans (HG2.out.mono HG1.out.size)).trans (HG3.out.mono hs)⟩

/-- What EncodedLen computes. -/
def encLen64 (p n : Int) : Int := if p = -1 then n / 3 * 4 + (n % 3 * 8 + 5) / 6 else (n + 2) / 3 * 4
/-- What decodedLen computes. -/
def decLen64 (p n : Int) : Int := if p = -1 then n / 4 * 3 + n % 4 * 6 / 8 else n / 4 * 3

set_option maxHeartbeats 400000 in
theorem decLen64_any (p n : Int) (w : World) (h0 : 0 ≤ n) (h1 : n ≤ 2305843009213693952) :
    Calls Try.prog 35 #[.int .i64 n, .int .i32 p] w fun e w' => e = .returned (.int .i64 (decLen64 p n)) ∧ w = w' := by
  have hf : decLen64 p n = if p = -1 then n / 4 * 3 + n % 4 * 6 / 8 else n / 4 * 3 := rfl
  have HF := Lib.hid hf
  clear hf
  by_cases hp : p = -1
  · have hp' : (p == -1) = true := by simpa using hp
    have HP := Lib.hid hp
    clear hp
    go_enter Try.func35, Try.ntmps35
    go_wp2
    go_ret
    exact ⟨ret_int (by rw [HF.out, if_pos HP.out]), rfl⟩
  · have hp' : (p == -1) = false := by simpa using hp
    have HP := Lib.hid hp
    clear hp
    go_enter Try.func35, Try.ntmps35
    go_wp2
    go_ret
    exact ⟨ret_int (by rw [HF.out, if_neg HP.out]), rfl⟩

set_option maxHeartbeats 400000 in
theorem decodedLen64_any (g : Nat) (a : List UInt8) (p n : Int) (st : Bool) (w : World) (hb : Blk w g 74 (encTo a 64 [.int .i32 p, .bool st])) (hz : a.length = 64) (h0 : 0 ≤ n) (h1 : n ≤ 2305843009213693952) :
    Calls Try.prog 33 #[.pointer (some ⟨g, 0, none⟩), .int .i64 n] w fun e w' => e = .returned (.int .i64 (decLen64 p n)) ∧ w = w' := by
  have hc : w.cell? ⟨g, 320, none⟩ = some (.int .i32 p) := (hb.cell 320).trans (encTo_tail a 64 _ 64 0 hz)
  clear hb hz
  go_enter Try.func33, Try.ntmps33
  go_wp2_with fail
  refine (decLen64_any p n _ h0 h1).mono ?_
  rintro e w1 ⟨rfl, rfl⟩
  go_wp2
  go_ret
  exact ⟨rfl, rfl⟩

/-- What EncodedLen computes. -/
def encLen32 (p n : Int) : Int := if p = -1 then n / 5 * 8 + (n % 5 * 8 + 4) / 5 else (n + 4) / 5 * 8
/-- What decodedLen computes. -/
def decLen32 (p n : Int) : Int := if p = -1 then n / 8 * 5 + n % 8 * 5 / 8 else n / 8 * 5

end Go.Proofs.Ytkiipbpcaakkoaa
