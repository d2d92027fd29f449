/-
  A slice of bytes that came in, opened: it reads as some bytes. Conditions: none.
-/
import Derived.Test.YtkiipbpcaakkoaaRows
import Derived.Test.YtkiipbpcaakkoaaLaws2
import Derived.ProofKit
import Derived.OpenShut
namespace Go.Proofs.Ytkiipbpcaakkoaa
open Go.RowKit Go.ChangeShapes Go.WideShapes

theorem byte_back (zs : List Int) (h : ∀ n ∈ zs, (Lit.int .u8 n).wf = true) (j : Nat) (x : UInt8) (hx : (zs.map fun n => UInt8.ofNat n.toNat)[j]? = some x) : (zs.getD j 0) = (x.toNat : Int) := by
  rw [List.getElem?_map] at hx
  cases hz : zs[j]? with
  | none => rw [hz] at hx; cases hx
  | some z =>
    rw [hz] at hx
    have hm := h z (List.mem_of_getElem? hz)
    have hr : 0 ≤ z ∧ z ≤ 255 := by simpa [Lit.wf, IntKind.min, IntKind.max, IntKind.signed, IntKind.bits] using hm
    simp only [Option.map_some, Option.some.injEq] at hx
    subst hx
    rw [List.getD_eq_getElem?_getD, hz, UInt8.toNat_ofNat_of_lt' (by show z.toNat < 256; omega)]
    simp only [Option.getD_some]
    omega

theorem bys_open {H : Type} {enc : TypeId × Value → H} {W : World} {base : Nat} {spare : Nat → Bool} {held : Bool} {r : Reach} {b0 t te : Nat} {v : Value} {d : DataW H} {p : List MemPlace} {P : Program}
    (hval : Value.okWide P W r b0 t v) (hd : DataW.Trod enc P W base spare held t v d p) (hu : P.underlying t = some (.slice te)) (he : P.underlying te = some (.int .u8)) (hc : P.cellsOf te = 1) :
    ∃ l, Bys W v l ∧ ∃ elems sp, (d = .slice elems sp ∧ elems.length = l.length) ∨ (d = .nil ∧ l = []) := by
  obtain ⟨a0, len0, cap0, rfl⟩ := okWide_slice hu hval
  obtain ⟨fuel, hf⟩ := hd
  rcases open_ints hu he hc hf with ⟨hcs, hx⟩ | ⟨x, len, cap, zs, hcs, _, hl, hm, hz, hx, hcell, hwz⟩
  · simp [Value.cells] at hcs
    obtain ⟨rfl, rfl, rfl⟩ := hcs
    simp only [Prod.mk.injEq] at hx
    refine ⟨[], ⟨none, 0, rfl, Nat.le_refl _, Nat.zero_le _, fun h => absurd h (by simp)⟩, [], [], Or.inr ⟨hx.1, rfl⟩⟩
  · simp [Value.cells] at hcs
    obtain ⟨rfl, rfl, rfl⟩ := hcs
    simp only [Prod.mk.injEq] at hx
    have hlz : len0 ≤ zs.length := by rw [hz]; split <;> omega
    have hll : ((zs.take len0).map fun n => UInt8.ofNat n.toNat).length = len0 := by simp; omega
    refine ⟨(zs.take len0).map fun n => UInt8.ofNat n.toNat, ⟨some x, cap0, by rw [hll], by rw [hll]; exact hl, hm, fun hp => ?_⟩, _, _, Or.inl ⟨hx.1, by rw [hll]; simp [lits]; omega⟩⟩
    rw [hll] at hp
    obtain ⟨b, off, spot⟩ := x
    have hc0 := hcell 0 (by omega)
    have hspot : spot = none := by simpa [Addr.add] using World.cell?_spot hc0
    subst hspot
    refine ⟨b, off, rfl, World.block_lt_of_cell? W _ hc0, fun j y hj => ?_⟩
    have hjl : j < len0 := by
      have := (List.getElem?_eq_some_iff.1 hj).1
      rw [hll] at this
      exact this
    have hcj := hcell j (by omega)
    have hadd : (⟨b, off, none⟩ : Addr).add j = ⟨b, off + j, none⟩ := Addr.add_mid b off j
    rw [hadd] at hcj
    rw [hcj]
    have hj' : (zs.map fun n => UInt8.ofNat n.toNat)[j]? = some y := by
      rw [List.map_take, List.getElem?_take, if_pos hjl] at hj
      exact hj
    rw [byte_back zs hwz j y hj']

theorem bys_open_upto {H : Type} {enc : TypeId × Value → H} {W : World} {base : Nat} {spare : Nat → Bool} {held : Bool} {r : Reach} {b0 t te : Nat} {v : Value} {d : DataW H} {p : List MemPlace} {P : Program}
    (hval : Value.okWide P W r b0 t v) (hd : DataW.Trod enc P W base spare held t v d p) (hu : P.underlying t = some (.slice te)) (he : P.underlying te = some (.int .u8)) (hc : P.cellsOf te = 1) :
    ∃ l, Bys W v l ∧ l.length ≤ Rows.uptoBulk d := by
  obtain ⟨l, hb, elems, sp, h | h⟩ := bys_open hval hd hu he hc
  · refine ⟨l, hb, ?_⟩
    rw [h.1, ← h.2]
    have : ∀ xs : List (DataW H), xs.length ≤ Rows.uptoBulkAll xs := fun xs => by
      induction xs with
      | nil => simp [Rows.uptoBulkAll]
      | cons y ys ih =>
        have h1 : 1 ≤ Rows.uptoBulk y := by
          cases y with
          | lit q => cases q <;> simp [Rows.uptoBulk]
          | nil => simp [Rows.uptoBulk]
          | ptr d => simp [Rows.uptoBulk]
          | slice e s => simp [Rows.uptoBulk]
          | agg ps => simp [Rows.uptoBulk]
          | iface t d => simp [Rows.uptoBulk]
          | map es => simp [Rows.uptoBulk]
          | held h => simp [Rows.uptoBulk]
        simp only [Rows.uptoBulkAll, List.length_cons]; omega
    have h2 := this elems
    simp only [Rows.uptoBulk]; omega
  · refine ⟨l, hb, ?_⟩
    rw [h.2]
    exact Nat.zero_le _

end Go.Proofs.Ytkiipbpcaakkoaa
