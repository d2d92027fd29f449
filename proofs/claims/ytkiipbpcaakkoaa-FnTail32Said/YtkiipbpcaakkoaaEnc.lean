/-
  Contracts of NewEncoding, WithPadding, Strict and of the thin package's encoding64, encoding32: the block of an Encoding, cell by cell. Conditions: the alphabet and the padding are valid.
-/
import Derived.Test.YtkiipbpcaakkoaaSpecA
import Derived.Test.YtkiipbpcaakkoaaEncP
namespace Go.Proofs.Ytkiipbpcaakkoaa
open Go.RowKit

theorem start_below {w w1 w2 w3 : World} {o : Obj} {c : Nat} {v : Value} (h1 : w1 = w.alloc o) (h2 : (w1.setCell ⟨w.heap.size, c, none⟩ v).grownBy w2 (some w.heap.size)) (h3 : w2.grownBy w3 (some w.heap.size)) :
    Below w.heap.size w w3 := by
  subst h1
  have b1 : Below w.heap.size w ((w.alloc o).setCell ⟨w.heap.size, c, none⟩ v) := ((Below.refl _ w).alloc (Nat.le_refl _) o).setCell (Nat.le_refl _) v
  have hs := b1.size
  refine (b1.grown h2 hs ?_).grown h3 (Nat.le_trans hs h2.size) ?_
  · intro k hk; cases hk; exact Nat.le_refl _
  · intro k hk; cases hk; exact Nat.le_refl _

theorem below_drewN_set {B : Nat} {a w : World} (h : Below B a w) (n : Nat) {p : Addr} (hp : B ≤ p.block) (u : Value) : Below B a ((w.drewN n).setCell p u) :=
  Below.setCell (w := w.drewN n) ⟨h.os, h.tape, h.output, h.size, h.block⟩ hp u
theorem boxed_below {w w1 : World} {o : Obj} (h : w1 = w.alloc o) (i : Nat) (v : Value) : Below w.heap.size w (w1.setCell ⟨w.heap.size, i, none⟩ v) := by
  subst h
  exact ((Below.refl _ w).alloc (Nat.le_refl _) o).setCell (Nat.le_refl _) v

def zeroEnc64 : List Value := List.replicate 64 (Value.int .u8 0) ++ (List.replicate 256 (Value.int .u8 0) ++ [Value.int .i32 0, Value.bool false])
theorem zero64 : (Try.prog.info? 74).bind (·.zero) = some (.agg zeroEnc64.toArray) := by kernel_rfl
theorem zeroLen64 : zeroEnc64.length = 322 := by kernel_rfl
theorem one64 : (Try.prog.info? 5).map (·.size) = some 1 := by kernel_rfl

theorem start_is64 (s : ByteArray) (hz : s.size = 64) : splice (splice (zeroEnc64.set 320 (Value.int .i32 61)) 0 (Lib.byteCells s.data.toList)) 64 (Lib.byteCells ffs.data.toList) = encTo s.data.toList 0 [.int .i32 61, Value.bool false] := by
  have e0 : zeroEnc64.set 320 (Value.int .i32 61) = List.replicate 64 (Value.int .u8 0) ++ (List.replicate 256 (Value.int .u8 0) ++ [Value.int .i32 61, Value.bool false]) := by kernel_rfl
  have hl : (Lib.byteCells s.data.toList).length = 64 := by rw [Lib.byteCells_length]; simpa using hz
  rw [e0, splice_two _ _ _ _ _ 64 (by rw [hl, List.length_replicate]) (by rw [ffs_cells, List.length_replicate, List.length_replicate]) hl, ffs_cells]
  unfold encTo
  rw [mapCells_zero]
theorem start_len64 (s : ByteArray) (hz : s.size = 64) : (splice (zeroEnc64.set 320 (Value.int .i32 61)) 0 (Lib.byteCells s.data.toList)).length = 322 := by
  have hl : (Lib.byteCells s.data.toList).length = 64 := by rw [Lib.byteCells_length]; simpa using hz
  rw [length_splice _ _ _ (by rw [hl, List.length_set, zeroLen64]; omega), List.length_set, zeroLen64]

set_option maxHeartbeats 1000000 in
set_option maxRecDepth 100000 in
theorem newEncoding64 (s : ByteArray) (p : Int) (w : World) (hv : validP 6 s.data.toList p) :
    Calls Try.prog 30 #[.string s] w fun e w' => e = .returned (.pointer (some ⟨w.heap.size, 0, none⟩)) ∧ Blk w' w.heap.size 74 (encTo s.data.toList 64 [.int .i32 61, Value.bool false]) ∧ Below w.heap.size w w' := by
  have HV := Lib.hid hv
  have hz : s.size = 64 := by have := hv.1; simpa using this
  have HZ := Lib.hid hz
  have hz1 : s.size ≤ 64 := by omega
  have hz2 : 64 ≤ s.size := by omega
  clear hv hz
  go_enter Try.func30, Try.ntmps30
  go_wp2_with (first
    | (with_reducible refine wpList_alloc_row rfl 74 rfl zeroEnc64 zero64 ?_
       intro w1 hb1 he1
       have hc1 : w1.cell? ⟨w.heap.size, 320, none⟩ = some (.int .i32 0) := (hb1.out.cell 320).trans (by kernel_rfl)
       have hf1 : w1.frozen? ⟨w.heap.size, 320, none⟩ = false := hb1.out.frozen 320)
    | (with_reducible refine wpList_copy_str rfl (.tmp 16) (.tmp 17) 22 9 rfl 5 Try.underlying22 one64 w.heap.size 0 64 64 s ?_ ?_ _ _ (hb1.out.set_ 320 _) ?_ ?_ ?_
       · rfl
       · rfl
       · exact hz1
       · rw [List.length_set, zeroLen64]; omega
       intro w2 hb2 hg2
       have hb2' := Blk.lt hb2.out)
    | (with_reducible refine wpList_copy_str rfl (.tmp 22) _ 22 9 rfl 5 Try.underlying22 one64 w.heap.size 64 256 256 ffs ?_ ?_ _ _ hb2.out ?_ ?_ ?_
       · rfl
       · kernel_rfl
       · exact Nat.le_of_eq (by kernel_rfl)
       · rw [start_len64 s HZ.out]; exact Nat.le_trans (Nat.le_of_eq (by kernel_rfl : 64 + ffs.size = 320)) (by omega)
       intro w3 hb3 hg3
       have hB : Hid (Blk w3 w.heap.size 74 (encTo s.data.toList 0 [.int .i32 61, Value.bool false])) := by have := hb3.out; rw [start_is64 s HZ.out] at this; exact this
       have hG : Hid (Below w.heap.size w w3) := start_below he1.out hg2.out hg3.out
       clear hb1 he1 hc1 hf1 hb2 hg2 hb2' hb3 hg3)
    | fail)
  go_loopw [4] (fun i wr => ∃ k : Nat, k ≤ 64 ∧ i = .int .i64 k ∧ Hid (Blk wr w.heap.size 74 (encTo s.data.toList k [.int .i32 61, Value.bool false])) ∧ Hid (Below w.heap.size w wr)) (fun i _ => 64 - (intOf i).toNat)
  case atStart => exact ⟨0, Nat.zero_le _, rfl, hB, hG⟩
  case round =>
    obtain ⟨k, hk, rfl, hbr, hgr⟩ := hrel
    by_cases hlt : k < 64
    · have hsz : k < s.size := by omega
      have hlt2 : k < s.data.toList.length := by simpa using hsz
      have hl := HV.out.2.2.2.2.2 k hlt2
      have HL := Lib.hid hl
      have n10 : ((s[k].toNat : Int) == 10) = false := by rw [beq_eq_false_iff_ne]; have := hl.2.1; exact fun h => this (by exact_mod_cast h)
      have n13 : ((s[k].toNat : Int) == 13) = false := by rw [beq_eq_false_iff_ne]; have := hl.1; exact fun h => this (by exact_mod_cast h)
      have hcell : wr.cell? ⟨w.heap.size, 64 + s[k].toNat, none⟩ = some (.int .u8 255) := by
        rw [hbr.out.cell, encTo_map _ _ _ 64 _ (HV.out.1) s[k].toNat_lt]
        have : idx s.data.toList (s[k].toNat : Int) = (k : Int) := hl.2.2.2.2
        simp [mapAt, this]
      have hfr : wr.frozen? ⟨w.heap.size, 64 + s[k].toNat, none⟩ = false := hbr.out.frozen _
      clear hl
      go_wp2
      have hbd : ((s[k].toNat : Nat) : Int) < 256 := by have := s[k].toNat_lt; omega
      have hbd0 : (0 : Int) ≤ ((s[k].toNat : Nat) : Int) := by omega
      go_quiet (fail)
      go_wp2
      go_region
      all_goals go_wp2
      go_roundw
      case rel =>
        refine ⟨k + 1, by omega, by go_num, ?_, below_drewN_set hgr.out _ (Nat.le_refl _) _⟩
        have h1 := (hbr.out.drewN (nq + 1)).set_ (64 + s[k].toNat) (Value.int .u8 (k : Int))
        have h2 := encTo_step s.data.toList k [.int .i32 61, Value.bool false] 64 HV.out.1 hlt2 HL.out.2.2.2.2
        rw [show (64 + s[k].toNat) = (64 + (s.data.toList[k]'hlt2).toNat) from rfl, h2] at h1
        exact h1
      case measure => simp [intOf]; omega
    · obtain rfl : k = 64 := by omega
      go_wp2
      go_ret
      exact ⟨rfl, hbr.out, hgr.out⟩

set_option maxHeartbeats 1000000 in
set_option maxRecDepth 100000 in
theorem withPadding64 (a : List UInt8) (p p0 : Int) (w : World) (hv : validP 6 a p) :
    Calls Try.prog 31 #[.agg (encTo a 64 [.int .i32 p0, Value.bool false]).toArray, .int .i32 p] w fun e w' => e = .returned (.pointer (some ⟨w.heap.size, 0, none⟩)) ∧ Blk w' w.heap.size 74 (encTo a 64 [.int .i32 p, Value.bool false]) ∧ Below w.heap.size w w' := by
  obtain ⟨hz, hp1, hp2, hp3, hp4, hl⟩ := hv
  have HZ := Lib.hid hz
  have HLt := Lib.hid hl
  have hp3' : (p == 13) = false := by simpa using hp3
  have hp4' : (p == 10) = false := by simpa using hp4
  have hnot : Hid (-1 < p → mapAt a 64 p.toNat = 255) := fun h => by
    have hi : idx a p = -1 := by
      apply idx_miss
      intro j hj e
      exact (hl j hj).2.2.2.1 e
    have e : ((p.toNat : Nat) : Int) = p := by omega
    simp [mapAt, e, hi]
  clear hp3 hp4 hz hl
  go_enter Try.func31, Try.ntmps31
  by_cases hneg : p = -1
  · have hn1 : (p != -1) = false := by simpa using hneg
    have HN := Lib.hid hneg
    clear hneg
    go_wp2_with (first
      | (with_reducible refine wpList_box_row rfl 74 (.tmp 0) rfl (encTo a 64 [.int .i32 p0, Value.bool false]) ?_ ?_
         · rfl
         intro w1 hb1 he1
         have hc1 : w1.cell? ⟨w.heap.size, 320, none⟩ = some (.int .i32 p0) := (hb1.out.cell 320).trans (encTo_tail a 64 _ 64 0 HZ.out)
         have hf1 : w1.frozen? ⟨w.heap.size, 320, none⟩ = false := hb1.out.frozen 320)
      | fail)
    go_ret
    refine ⟨rfl, ?_, boxed_below he1.out _ _⟩
    have h1 := hb1.out.set_ 320 (Value.int .i32 p)
    rw [encTo_set_tail a 64 _ 64 0 HZ.out] at h1
    exact h1
  · have hn1 : (p != -1) = true := by simpa using hneg
    have hp0 : 0 ≤ p := by omega
    clear hneg
    go_wp2_with (first
      | (with_reducible refine wpList_box_row rfl 74 (.tmp 0) rfl (encTo a 64 [.int .i32 p0, Value.bool false]) ?_ ?_
         · rfl
         intro w1 hb1 he1
         have hc1 : w1.cell? ⟨w.heap.size, 320, none⟩ = some (.int .i32 p0) := (hb1.out.cell 320).trans (encTo_tail a 64 _ 64 0 HZ.out)
         have hc2 : w1.cell? ⟨w.heap.size, 64 + p.toNat, none⟩ = some (.int .u8 255) := by
           rw [hb1.out.cell, encTo_map _ _ _ 64 _ HZ.out (by omega), hnot.out (by omega)]
         have hf1 : w1.frozen? ⟨w.heap.size, 320, none⟩ = false := hb1.out.frozen 320)
      | fail)
    go_ret
    refine ⟨rfl, ?_, boxed_below he1.out _ _⟩
    have h1 := hb1.out.set_ 320 (Value.int .i32 p)
    rw [encTo_set_tail a 64 _ 64 0 HZ.out] at h1
    exact h1

def zeroEnc32 : List Value := List.replicate 32 (Value.int .u8 0) ++ (List.replicate 256 (Value.int .u8 0) ++ [Value.int .i32 0])
theorem zero32 : (Try.prog.info? 69).bind (·.zero) = some (.agg zeroEnc32.toArray) := by kernel_rfl
theorem zeroLen32 : zeroEnc32.length = 289 := by kernel_rfl
theorem one32 : (Try.prog.info? 5).map (·.size) = some 1 := by kernel_rfl

theorem start_is32 (s : ByteArray) (hz : s.size = 32) : splice (splice (zeroEnc32.set 288 (Value.int .i32 61)) 0 (Lib.byteCells s.data.toList)) 32 (Lib.byteCells ffs.data.toList) = encTo s.data.toList 0 [.int .i32 61] := by
  have e0 : zeroEnc32.set 288 (Value.int .i32 61) = List.replicate 32 (Value.int .u8 0) ++ (List.replicate 256 (Value.int .u8 0) ++ [Value.int .i32 61]) := by kernel_rfl
  have hl : (Lib.byteCells s.data.toList).length = 32 := by rw [Lib.byteCells_length]; simpa using hz
  rw [e0, splice_two _ _ _ _ _ 32 (by rw [hl, List.length_replicate]) (by rw [ffs_cells, List.length_replicate, List.length_replicate]) hl, ffs_cells]
  unfold encTo
  rw [mapCells_zero]
theorem start_len32 (s : ByteArray) (hz : s.size = 32) : (splice (zeroEnc32.set 288 (Value.int .i32 61)) 0 (Lib.byteCells s.data.toList)).length = 289 := by
  have hl : (Lib.byteCells s.data.toList).length = 32 := by rw [Lib.byteCells_length]; simpa using hz
  rw [length_splice _ _ _ (by rw [hl, List.length_set, zeroLen32]; omega), List.length_set, zeroLen32]

set_option maxHeartbeats 1000000 in
set_option maxRecDepth 100000 in
theorem newEncoding32 (s : ByteArray) (p : Int) (w : World) (hv : validP 5 s.data.toList p) :
    Calls Try.prog 26 #[.string s] w fun e w' => e = .returned (.pointer (some ⟨w.heap.size, 0, none⟩)) ∧ Blk w' w.heap.size 69 (encTo s.data.toList 32 [.int .i32 61]) ∧ Below w.heap.size w w' := by
  have HV := Lib.hid hv
  have hz : s.size = 32 := by have := hv.1; simpa using this
  have HZ := Lib.hid hz
  have hz1 : s.size ≤ 32 := by omega
  have hz2 : 32 ≤ s.size := by omega
  clear hv hz
  go_enter Try.func26, Try.ntmps26
  go_wp2_with (first
    | (with_reducible refine wpList_alloc_row rfl 69 rfl zeroEnc32 zero32 ?_
       intro w1 hb1 he1
       have hc1 : w1.cell? ⟨w.heap.size, 288, none⟩ = some (.int .i32 0) := (hb1.out.cell 288).trans (by kernel_rfl)
       have hf1 : w1.frozen? ⟨w.heap.size, 288, none⟩ = false := hb1.out.frozen 288)
    | (with_reducible refine wpList_copy_str rfl (.tmp 16) (.tmp 17) 22 9 rfl 5 Try.underlying22 one32 w.heap.size 0 32 32 s ?_ ?_ _ _ (hb1.out.set_ 288 _) ?_ ?_ ?_
       · rfl
       · rfl
       · exact hz1
       · rw [List.length_set, zeroLen32]; omega
       intro w2 hb2 hg2
       have hb2' := Blk.lt hb2.out)
    | (with_reducible refine wpList_copy_str rfl (.tmp 22) _ 22 9 rfl 5 Try.underlying22 one32 w.heap.size 32 256 256 ffs ?_ ?_ _ _ hb2.out ?_ ?_ ?_
       · rfl
       · kernel_rfl
       · exact Nat.le_of_eq (by kernel_rfl)
       · rw [start_len32 s HZ.out]; exact Nat.le_trans (Nat.le_of_eq (by kernel_rfl : 32 + ffs.size = 288)) (by omega)
       intro w3 hb3 hg3
       have hB : Hid (Blk w3 w.heap.size 69 (encTo s.data.toList 0 [.int .i32 61])) := by have := hb3.out; rw [start_is32 s HZ.out] at this; exact this
       have hG : Hid (Below w.heap.size w w3) := start_below he1.out hg2.out hg3.out
       clear hb1 he1 hc1 hf1 hb2 hg2 hb2' hb3 hg3)
    | fail)
  go_loopw [4] (fun i wr => ∃ k : Nat, k ≤ 32 ∧ i = .int .i64 k ∧ Hid (Blk wr w.heap.size 69 (encTo s.data.toList k [.int .i32 61])) ∧ Hid (Below w.heap.size w wr)) (fun i _ => 32 - (intOf i).toNat)
  case atStart => exact ⟨0, Nat.zero_le _, rfl, hB, hG⟩
  case round =>
    obtain ⟨k, hk, rfl, hbr, hgr⟩ := hrel
    by_cases hlt : k < 32
    · have hsz : k < s.size := by omega
      have hlt2 : k < s.data.toList.length := by simpa using hsz
      have hl := HV.out.2.2.2.2.2 k hlt2
      have HL := Lib.hid hl
      have n10 : ((s[k].toNat : Int) == 10) = false := by rw [beq_eq_false_iff_ne]; have := hl.2.1; exact fun h => this (by exact_mod_cast h)
      have n13 : ((s[k].toNat : Int) == 13) = false := by rw [beq_eq_false_iff_ne]; have := hl.1; exact fun h => this (by exact_mod_cast h)
      have hcell : wr.cell? ⟨w.heap.size, 32 + s[k].toNat, none⟩ = some (.int .u8 255) := by
        rw [hbr.out.cell, encTo_map _ _ _ 32 _ (HV.out.1) s[k].toNat_lt]
        have : idx s.data.toList (s[k].toNat : Int) = (k : Int) := hl.2.2.2.2
        simp [mapAt, this]
      have hfr : wr.frozen? ⟨w.heap.size, 32 + s[k].toNat, none⟩ = false := hbr.out.frozen _
      clear hl
      go_wp2
      have hbd : ((s[k].toNat : Nat) : Int) < 256 := by have := s[k].toNat_lt; omega
      have hbd0 : (0 : Int) ≤ ((s[k].toNat : Nat) : Int) := by omega
      go_quiet (fail)
      go_wp2
      go_region
      all_goals go_wp2
      go_roundw
      case rel =>
        refine ⟨k + 1, by omega, by go_num, ?_, below_drewN_set hgr.out _ (Nat.le_refl _) _⟩
        have h1 := (hbr.out.drewN (nq + 1)).set_ (32 + s[k].toNat) (Value.int .u8 (k : Int))
        have h2 := encTo_step s.data.toList k [.int .i32 61] 32 HV.out.1 hlt2 HL.out.2.2.2.2
        rw [show (32 + s[k].toNat) = (32 + (s.data.toList[k]'hlt2).toNat) from rfl, h2] at h1
        exact h1
      case measure => simp [intOf]; omega
    · obtain rfl : k = 32 := by omega
      go_wp2
      go_ret
      exact ⟨rfl, hbr.out, hgr.out⟩

set_option maxHeartbeats 1000000 in
set_option maxRecDepth 100000 in
theorem withPadding32 (a : List UInt8) (p p0 : Int) (w : World) (hv : validP 5 a p) :
    Calls Try.prog 27 #[.agg (encTo a 32 [.int .i32 p0]).toArray, .int .i32 p] w fun e w' => e = .returned (.pointer (some ⟨w.heap.size, 0, none⟩)) ∧ Blk w' w.heap.size 69 (encTo a 32 [.int .i32 p]) ∧ Below w.heap.size w w' := by
  obtain ⟨hz, hp1, hp2, hp3, hp4, hl⟩ := hv
  have HZ := Lib.hid hz
  have HLt := Lib.hid hl
  have hp3' : (p == 13) = false := by simpa using hp3
  have hp4' : (p == 10) = false := by simpa using hp4
  have hnot : Hid (-1 < p → mapAt a 32 p.toNat = 255) := fun h => by
    have hi : idx a p = -1 := by
      apply idx_miss
      intro j hj e
      exact (hl j hj).2.2.2.1 e
    have e : ((p.toNat : Nat) : Int) = p := by omega
    simp [mapAt, e, hi]
  clear hp3 hp4 hz hl
  go_enter Try.func27, Try.ntmps27
  by_cases hneg : p = -1
  · have hn1 : (p != -1) = false := by simpa using hneg
    have HN := Lib.hid hneg
    clear hneg
    go_wp2_with (first
      | (with_reducible refine wpList_box_row rfl 69 (.tmp 0) rfl (encTo a 32 [.int .i32 p0]) ?_ ?_
         · rfl
         intro w1 hb1 he1
         have hc1 : w1.cell? ⟨w.heap.size, 288, none⟩ = some (.int .i32 p0) := (hb1.out.cell 288).trans (encTo_tail a 32 _ 32 0 HZ.out)
         have hf1 : w1.frozen? ⟨w.heap.size, 288, none⟩ = false := hb1.out.frozen 288)
      | fail)
    go_ret
    refine ⟨rfl, ?_, boxed_below he1.out _ _⟩
    have h1 := hb1.out.set_ 288 (Value.int .i32 p)
    rw [encTo_set_tail a 32 _ 32 0 HZ.out] at h1
    exact h1
  · have hn1 : (p != -1) = true := by simpa using hneg
    have hp0 : 0 ≤ p := by omega
    clear hneg
    go_wp2_with (first
      | (with_reducible refine wpList_box_row rfl 69 (.tmp 0) rfl (encTo a 32 [.int .i32 p0]) ?_ ?_
         · rfl
         intro w1 hb1 he1
         have hc1 : w1.cell? ⟨w.heap.size, 288, none⟩ = some (.int .i32 p0) := (hb1.out.cell 288).trans (encTo_tail a 32 _ 32 0 HZ.out)
         have hc2 : w1.cell? ⟨w.heap.size, 32 + p.toNat, none⟩ = some (.int .u8 255) := by
           rw [hb1.out.cell, encTo_map _ _ _ 32 _ HZ.out (by omega), hnot.out (by omega)]
         have hf1 : w1.frozen? ⟨w.heap.size, 288, none⟩ = false := hb1.out.frozen 288)
      | fail)
    go_ret
    refine ⟨rfl, ?_, boxed_below he1.out _ _⟩
    have h1 := hb1.out.set_ 288 (Value.int .i32 p)
    rw [encTo_set_tail a 32 _ 32 0 HZ.out] at h1
    exact h1

set_option maxHeartbeats 1000000 in
set_option maxRecDepth 100000 in
theorem strict64 (a : List UInt8) (p : Int) (w : World) (hz : a.length = 64) :
    Calls Try.prog 32 #[.agg (encTo a 64 [.int .i32 p, .bool false]).toArray] w fun e w' => e = .returned (.pointer (some ⟨w.heap.size, 0, none⟩)) ∧ Blk w' w.heap.size 74 (encTo a 64 [.int .i32 p, .bool true]) ∧ Below w.heap.size w w' := by
  have HZ := Lib.hid hz
  clear hz
  go_enter Try.func32, Try.ntmps32
  go_wp2_with (first
    | (with_reducible refine wpList_box_row rfl 74 (.tmp 0) rfl (encTo a 64 [.int .i32 p, .bool false]) ?_ ?_
       · rfl
       intro w1 hb1 he1
       have hc1 : w1.cell? ⟨w.heap.size, 321, none⟩ = some (.bool false) := (hb1.out.cell 321).trans (encTo_tail a 64 _ 64 1 HZ.out)
       have hf1 : w1.frozen? ⟨w.heap.size, 321, none⟩ = false := hb1.out.frozen 321)
    | fail)
  go_ret
  refine ⟨rfl, ?_, boxed_below he1.out _ _⟩
  have h1 := hb1.out.set_ 321 (Value.bool true)
  rw [encTo_set_tail a 64 _ 64 1 HZ.out] at h1
  exact h1

end Go.Proofs.Ytkiipbpcaakkoaa
