/-
  The contract of the reference's function Text: it returns the text of some bytes. Conditions: the alphabet and the padding are valid; at most 2 ^ 47 - 4096 bytes.
-/
import Derived.Test.YtejkphobeclefaaSpecC
import Derived.Test.YtejkphobeclefaaBits
import Derived.Deep.DeepAppendWide
namespace Go.Proofs.Ytejkphobeclefaa
open Go.RowKit

theorem byteInfo' : (Try.prog.info? 5).map (fun i => (i.zero, i.size, i.bytes)) = some (some (.int .u8 0), 1, 1) := by kernel_rfl

theorem valTo_lt (bits : Nat) (l : List UInt8) (i : Nat) : ∀ m, valTo bits l i m < 2 ^ m
  | 0 => by simp [valTo]
  | m + 1 => by
    have h := valTo_lt bits l i m
    have hb : bitAt l (bits * i + m) < 2 := Nat.mod_lt _ (by omega)
    rw [valTo, Nat.pow_succ]
    omega

theorem owns_start {w : World} {q : Nat} {E : TypeId} : ((w.alloc (.cells #[] E)).drewN q).ownsRow w.heap.size E 1 (.slice (some ⟨w.heap.size, 0, none⟩) 0 0) 0 [] :=
  ⟨rfl, Or.inr ⟨w.heap.size, 0, #[], rfl, Nat.le_refl _, heap_alloc_new w _, Nat.le_refl _, by unfold maxLen; omega, rfl, rfl⟩⟩

theorem pow_small (m k : Nat) (h : m ≤ k) : 2 ^ m ≤ 2 ^ k := Nat.pow_le_pow_right (by decide) h
theorem owns_form {w : World} {B : Nat} {E : TypeId} {v : Value} {n : Nat} {xs : List Value} (h : w.ownsRow B E 1 v n xs) : ∃ A c, v = .slice A n c ∧ n ≤ c ∧ c ≤ maxLen := by
  rcases h.2 with ⟨rfl, rfl⟩ | ⟨g, cap, cur, rfl, _, _, h1, h2, _⟩
  · exact ⟨none, 0, rfl, Nat.le_refl _, Nat.zero_le _⟩
  · exact ⟨_, cap, rfl, h1, h2⟩
theorem owns_bys {w : World} {B : Nat} {E : TypeId} {v : Value} {n : Nat} {l : List UInt8} (h : w.ownsRow B E 1 v n (Lib.byteCells l)) : Bys w v l := by
  have hl := h.1
  rw [Lib.byteCells_length, Nat.mul_one] at hl
  rcases h.2 with ⟨rfl, rfl⟩ | ⟨g, cap, cur, rfl, _, hg, h1, h2, _, h4⟩
  · refine ⟨none, 0, by rw [hl], by omega, Nat.zero_le _, fun hp => by omega⟩
  · subst hl
    refine ⟨_, cap, rfl, h1, h2, fun _ => ⟨g, 0, rfl, (Array.getElem?_eq_some_iff.1 hg).1, fun j x hj => ?_⟩⟩
    rw [Nat.zero_add, cell_of_row w g j cur E (0, 0) hg]
    have h5 := byteCells_at l j x hj
    rw [← h4, List.getElem?_take] at h5
    split at h5
    · simpa using h5
    · cases h5
theorem append_step {w0 w w1 : World} {o : Obj} {B : Nat} {E : TypeId} {v : Value} {n : Nat} {xs : List Value} (hb : Below B w0 w) (hB : B ≤ w.heap.size) (hown : w.ownsRow B E 1 v n xs) (hg : (w.alloc o).grownBy w1 v.ownBlock) : Below B w0 w1 :=
  (hb.alloc hB o).grown hg (by simp; omega) (fun k hk => (hown.lt k hk).1)

theorem take_one {α : Type} (L : List α) (k : Nat) (x : α) (h : L[k]? = some x) : L.take (k + 1) = L.take k ++ [x] := by
  rw [List.take_add_one, h]
  rfl

theorem charsN6_le (n : Nat) : charsN 6 n ≤ 2 * n := by unfold charsN; omega
theorem charsN6_wide (n : Nat) : 6 * charsN 6 n ≤ 8 * n + 6 := by unfold charsN; omega
theorem chars6_N (n : Nat) : chars 6 (n : Int) = ((charsN 6 n : Nat) : Int) := by unfold chars charsN; omega

theorem padN6_le (p : Int) (n : Nat) : padN 6 p n ≤ 7 ∧ (p < 0 → padN 6 p n = 0) := by
  unfold padN
  refine ⟨?_, fun h => by rw [if_pos h]⟩
  rw [show grpN 6 = 4 from rfl]
  split <;> omega
theorem lenOf6_N (p : Int) (n : Nat) : lenOf 6 p (n : Int) = ((lenN 6 p n : Nat) : Int) := by
  unfold lenOf lenN padN
  rw [chars6_N, show grpN 6 = 4 from rfl, show grp 6 = 4 from rfl]
  split <;> omega

theorem charsN5_le (n : Nat) : charsN 5 n ≤ 2 * n := by unfold charsN; omega
theorem charsN5_wide (n : Nat) : 5 * charsN 5 n ≤ 8 * n + 5 := by unfold charsN; omega
theorem chars5_N (n : Nat) : chars 5 (n : Int) = ((charsN 5 n : Nat) : Int) := by unfold chars charsN; omega

theorem padN5_le (p : Int) (n : Nat) : padN 5 p n ≤ 7 ∧ (p < 0 → padN 5 p n = 0) := by
  unfold padN
  refine ⟨?_, fun h => by rw [if_pos h]⟩
  rw [show grpN 5 = 8 from rfl]
  split <;> omega
theorem lenOf5_N (p : Int) (n : Nat) : lenOf 5 p (n : Int) = ((lenN 5 p n : Nat) : Int) := by
  unfold lenOf lenN padN
  rw [chars5_N, show grpN 5 = 8 from rfl, show grp 5 = 8 from rfl]
  split <;> omega

end Go.Proofs.Ytejkphobeclefaa
