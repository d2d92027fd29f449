/-
  Contracts of the thin package's encoding64 and encoding32, of EncodedLen, DecodedLen and decodedLen: what they return. Conditions: the alphabet and the padding are valid; lengths between 0 and 2 ^ 61.
-/
import Derived.Test.YtidpibcopldfpaaEnc
import Derived.Test.YtidpibcopldfpaaSpecB
namespace Go.Proofs.Ytidpibcopldfpaa
open Go.RowKit

theorem size32 : (Try.prog.info? 51).map (·.size) = some 289 := by kernel_rfl
theorem encSize32 (a : List UInt8) (T : List Value) (hz : a.length = 32) (hT : T.length = 289 - 288) : (Try.prog.info? 51).map (·.size) = some (encTo a 32 T).length := by
  rw [size32, encTo_length, hz, hT]

set_option maxHeartbeats 1000000 in
set_option maxRecDepth 100000 in
theorem encoding32 (s : ByteArray) (p : Int) (w : World) (hv : validP 5 s.data.toList p) :
    Calls Try.prog 24 #[.string s, .int .i64 p] w fun e w' => ∃ g, e = .returned (.pointer (some ⟨g, 0, none⟩)) ∧ w.heap.size ≤ g ∧ Blk w' g 51 (encTo s.data.toList 32 [.int .i32 p]) ∧ Below w.heap.size w w' := by
  have HV := Lib.hid hv
  have HI := Lib.hid (encSize32 s.data.toList [.int .i32 61] hv.1 rfl)
  have hp1 := hv.2.1
  have hp2 := hv.2.2.1
  clear hv
  go_enter Try.func24, Try.ntmps24
  go_wp2_with fail
  refine (newEncoding32 s p _ HV.out).mono ?_
  rintro e w1 ⟨rfl, hb1, hg1⟩
  have HB1 := Lib.hid hb1
  have HG1 := Lib.hid hg1
  clear hb1 hg1
  go_wp2_with ((with_reducible refine wpList_load_blk rfl 51 _ rfl w.heap.size _ _ HB1.out _ Try.underlying51 HI.out ?_ ?_); rfl)
  refine (withPadding32 s.data.toList p 61 _ HV.out).mono ?_
  rintro e w2 ⟨rfl, hb2, hg2⟩
  have HB2 := Lib.hid hb2
  have HG2 := Lib.hid hg2
  clear hb2 hg2
  go_wp2
  go_ret
  exact ⟨_, rfl, HG1.out.size, HB2.out, HG1.out.trans (HG2.out.mono HG1.out.size)⟩

/-- What EncodedLen computes. -/
def encLen64 (p n : Int) : Int := if p = -1 then n / 3 * 4 + (n % 3 * 8 + 5) / 6 else (n + 2) / 3 * 4
/-- What decodedLen computes. -/
def decLen64 (p n : Int) : Int := if p = -1 then n / 4 * 3 + n % 4 * 6 / 8 else n / 4 * 3

/-- What EncodedLen computes. -/
def encLen32 (p n : Int) : Int := if p = -1 then n / 5 * 8 + (n % 5 * 8 + 4) / 5 else (n + 4) / 5 * 8
/-- What decodedLen computes. -/
def decLen32 (p n : Int) : Int := if p = -1 then n / 8 * 5 + n % 8 * 5 / 8 else n / 8 * 5

set_option maxHeartbeats 400000 in
theorem encodedLen32_any (g : Nat) (a : List UInt8) (p n : Int)  (w : World) (hb : Blk w g 51 (encTo a 32 [.int .i32 p])) (hz : a.length = 32) (h0 : 0 ≤ n) (h1 : n ≤ 2305843009213693952) :
    Calls Try.prog 29 #[.pointer (some ⟨g, 0, none⟩), .int .i64 n] w fun e w' => e = .returned (.int .i64 (encLen32 p n)) ∧ w = w' := by
  have hc : w.cell? ⟨g, 288, none⟩ = some (.int .i32 p) := (hb.cell 288).trans (encTo_tail a 32 _ 32 0 hz)
  clear hb hz
  have hf : encLen32 p n = if p = -1 then n / 5 * 8 + (n % 5 * 8 + 4) / 5 else (n + 4) / 5 * 8 := rfl
  have HF := Lib.hid hf
  clear hf
  by_cases hp : p = -1
  · have hp' : (p == -1) = true := by simpa using hp
    have HP := Lib.hid hp
    clear hp
    go_enter Try.func29, Try.ntmps29
    go_wp2
    go_ret
    exact ⟨ret_int (by rw [HF.out, if_pos HP.out]), rfl⟩
  · have hp' : (p == -1) = false := by simpa using hp
    have HP := Lib.hid hp
    clear hp
    go_enter Try.func29, Try.ntmps29
    go_wp2
    go_ret
    exact ⟨ret_int (by rw [HF.out, if_neg HP.out]), rfl⟩

end Go.Proofs.Ytidpibcopldfpaa
