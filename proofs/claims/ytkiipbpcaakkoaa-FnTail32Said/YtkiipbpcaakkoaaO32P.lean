/-
  Plain facts for the walk of base32's decode: single steps of a quantum, the cells of its buffer, what holds between two rounds. No program in sight. Conditions: as each states.
-/
import Derived.Test.YtkiipbpcaakkoaaOctT
import Derived.Test.YtkiipbpcaakkoaaD64P
namespace Go.Proofs.Ytkiipbpcaakkoaa
open Go.RowKit
set_option linter.unusedVariables false

/-- The buffer of a quantum. -/
def ocells (v : List Nat) : List Value := (v.map fun x : Nat => Value.int .u8 (x : Int)) ++ List.replicate (8 - v.length) (Value.int .u8 0)

theorem ocells_length (v : List Nat) (h : v.length ≤ 8) : (ocells v).length = 8 := by simp [ocells]; omega
theorem ocells_next (v : List Nat) (h : v.length < 8) : (ocells v)[v.length]? = some (.int .u8 0) := by
  unfold ocells
  rw [List.getElem?_append_right (by simp), List.length_map, Nat.sub_self, List.getElem?_replicate, if_pos (by omega)]
theorem ocells_set (v : List Nat) (x : Nat) (h : v.length < 8) : (ocells v).set v.length (.int .u8 (x : Int)) = ocells (v ++ [x]) := by
  unfold ocells
  rw [List.set_append_right _ _ (by simp), List.length_map, Nat.sub_self, List.map_append, List.append_assoc]
  congr 1
  rw [show 8 - v.length = (8 - (v ++ [x]).length) + 1 by simp; omega, List.replicate_succ]
  rfl

section
variable {a : List UInt8} {p : Int} {n : Nat} {src : List UInt8} {v : List Nat} {k : Nat} {c : UInt8}
theorem oct_end (h : src.length ≤ k) : oct a p n v (src.drop k) = if p ≠ -1 then .bad ((n : Int) - (v.length : Int)) else .got v [] true := by
  rw [List.drop_eq_nil_of_le h, oct]
theorem oct_padding (hc : src[k]? = some c) (hp : (c.toNat : Int) = padOf p) (hv : 2 ≤ v.length) (hr : src.length - (k + 1) < 8) : oct a p n v (src.drop k) = octPad p n v (src.drop (k + 1)) := by
  rw [drop_cons _ _ _ hc, oct, if_pos ⟨hp, hv, by rw [List.length_drop]; exact hr⟩]
theorem oct_letter (hc : src[k]? = some c) (hn : ¬ ((c.toNat : Int) = padOf p ∧ 2 ≤ v.length ∧ src.length - (k + 1) < 8)) (hl : isL a c = true) (h7 : v.length ≠ 7) : oct a p n v (src.drop k) = oct a p n (v ++ [numL a c]) (src.drop (k + 1)) := by
  rw [drop_cons _ _ _ hc, oct, if_neg (by rw [List.length_drop]; exact hn), if_pos hl, if_neg h7]
theorem oct_last (hc : src[k]? = some c) (hn : ¬ ((c.toNat : Int) = padOf p ∧ 2 ≤ v.length ∧ src.length - (k + 1) < 8)) (hl : isL a c = true) (h7 : v.length = 7) : oct a p n v (src.drop k) = .got (v ++ [numL a c]) (src.drop (k + 1)) false := by
  rw [drop_cons _ _ _ hc, oct, if_neg (by rw [List.length_drop]; exact hn), if_pos hl, if_pos h7]
theorem oct_other (hc : src[k]? = some c) (hn : ¬ ((c.toNat : Int) = padOf p ∧ 2 ≤ v.length ∧ src.length - (k + 1) < 8)) (hl : isL a c = false) : oct a p n v (src.drop k) = .bad ((n : Int) - ((src.length - (k + 1) : Nat) : Int) - 1) := by
  rw [drop_cons _ _ _ hc, oct, if_neg (by rw [List.length_drop]; exact hn), if_neg (by rw [hl]; simp), List.length_drop]

theorem octPad_short (h : src.length - k + v.length < 7) : octPad p n v (src.drop k) = .bad (n : Int) := by
  unfold octPad
  rw [if_pos (by rw [List.length_drop]; exact h)]
theorem octPad_hit (h : ¬ src.length - k + v.length < 7) (i : Nat) (hi : i < 7 - v.length) (d : UInt8) (hd : src[k + i]? = some d) (hne : (d.toNat : Int) ≠ padOf p) (hall : ∀ j e, j < i → src[k + j]? = some e → (e.toNat : Int) = padOf p) :
    octPad p n v (src.drop k) = .bad ((n : Int) - ((src.length - k : Nat) : Int) + (i : Int) - 1) := by
  have hil : k + i < src.length := (List.getElem?_eq_some_iff.1 hd).1
  have hlen : ((src.drop k).take (7 - v.length)).length = 7 - v.length := by simp; omega
  have hat : ∀ j, (hj : j < 7 - v.length) → ((src.drop k).take (7 - v.length))[j]'(by omega) = src[k + j]'(by omega) := fun j hj => by rw [List.getElem_take, List.getElem_drop]
  have hf : ((src.drop k).take (7 - v.length)).findIdx? (fun c => (c.toNat : Int) != padOf p) = some i := by
    rw [List.findIdx?_eq_some_iff_getElem]
    refine ⟨by omega, ?_, fun j hj => ?_⟩
    · rw [hat i hi]
      rw [List.getElem?_eq_getElem hil] at hd
      simp only [Option.some.injEq] at hd
      rw [hd]
      simpa using hne
    · rw [hat j (by omega)]
      simpa using hall j _ hj (List.getElem?_eq_getElem (by omega))
  unfold octPad
  rw [if_neg (by rw [List.length_drop]; exact h), hf, List.length_drop]
theorem octPad_pads (h : ¬ src.length - k + v.length < 7) (hall : ∀ j e, j < 7 - v.length → src[k + j]? = some e → (e.toNat : Int) = padOf p) :
    octPad p n v (src.drop k) = if v.length = 1 ∨ v.length = 3 ∨ v.length = 6 then .bad ((n : Int) - ((src.length - k : Nat) : Int) - 1) else .got v (src.drop k) true := by
  have hf : ((src.drop k).take (7 - v.length)).findIdx? (fun c => (c.toNat : Int) != padOf p) = none := by
    rw [List.findIdx?_eq_none_iff]
    intro x hx
    obtain ⟨j, hj, rfl⟩ := List.getElem_of_mem hx
    rw [List.length_take, List.length_drop] at hj
    rw [List.getElem_take, List.getElem_drop]
    simpa using hall j _ (by omega) (List.getElem?_eq_getElem (by omega))
  unfold octPad
  rw [if_neg (by rw [List.length_drop]; exact h), hf, List.length_drop]
end

theorem oct_fin (a : List UInt8) (p : Int) (n : Nat) : ∀ (r : List UInt8) (v v' : List Nat) (u : List UInt8), v.length ≤ 7 → oct a p n v r = .got v' u true → v'.length ≤ 7
  | [], v, v', u, hv, h => by
    unfold oct at h
    split at h
    · cases h
    · simp only [Oct.got.injEq] at h
      rw [← h.1]; exact hv
  | c :: r, v, v', u, hv, h => by
    unfold oct at h
    split at h
    · obtain ⟨e, _⟩ := octPad_none hv h
      rw [e]; exact hv
    · split at h
      · split at h
        · simp only [Oct.got.injEq] at h
          exact absurd h.2.2 (by simp)
        · rename_i h7
          exact oct_fin a p n r _ v' u (by simp; omega) h
      · cases h

theorem oct_lt (a : List UInt8) (p : Int) (n N : Nat) (hN : a.length = N) : ∀ (r : List UInt8) (v v' : List Nat) (u : List UInt8) (fin : Bool), v.length ≤ 7 → (∀ x ∈ v, x < N) → oct a p n v r = .got v' u fin → ∀ x ∈ v', x < N
  | [], v, v', u, fin, hv, hlt, h => by
    unfold oct at h
    split at h
    · cases h
    · simp only [Oct.got.injEq] at h
      rw [← h.1]; exact hlt
  | c :: r, v, v', u, fin, hv, hlt, h => by
    unfold oct at h
    split at h
    · obtain ⟨e, _⟩ := octPad_none hv h
      rw [e]; exact hlt
    · split at h
      · rename_i hc
        have hv2 : ∀ x ∈ v ++ [numL a c], x < N := by
          intro x hm
          rcases List.mem_append.1 hm with h | h
          · exact hlt x h
          · rw [List.mem_singleton] at h
            rw [h]; exact (map_letter hc hN).2
        split at h
        · simp only [Oct.got.injEq] at h
          rw [← h.1]; exact hv2
        · rename_i h7
          exact oct_lt a p n N hN r _ v' u fin (by simp; omega) hv2 h
      · cases h

/-- What holds between two rounds: k characters have been read, the bytes ds have been written. -/
def OInv (a : List UInt8) (p : Int) (src : List UInt8) (k : Nat) (ds : List UInt8) : Prop :=
  octDec a p src.length src = (ds ++ (octDec a p src.length (src.drop k)).1, (octDec a p src.length (src.drop k)).2)

section
variable {a : List UInt8} {p : Int} {src : List UInt8} {k : Nat} {ds : List UInt8} {v : List Nat}
theorem OInv.start : OInv a p src 0 [] := by unfold OInv; simp
theorem drop_ne (hk : k < src.length) : src.drop k ≠ [] := fun h => by have := congrArg List.length h; simp at this; omega
theorem OInv.step (h : OInv a p src k ds) (hk : k < src.length) (ho : oct a p src.length [] (src.drop k) = .got v (src.drop (k + 8)) false) : OInv a p src (k + 8) (ds ++ octBytes v) := by
  unfold OInv at h ⊢
  rw [h, octDec_step a p _ _ (drop_ne hk) v _ ho, List.append_assoc]
theorem OInv.fin (h : OInv a p src k ds) (hk : k < src.length) (u : List UInt8) (ho : oct a p src.length [] (src.drop k) = .got v u true) : octDec a p src.length src = (ds ++ octBytes v, none) := by
  unfold OInv at h
  rw [h, octDec_fin a p _ _ (drop_ne hk) v u ho]
theorem OInv.bad (h : OInv a p src k ds) (hk : k < src.length) (e : Int) (ho : oct a p src.length [] (src.drop k) = .bad e) : octDec a p src.length src = (ds, some e) := by
  unfold OInv at h
  rw [h, octDec_bad a p _ _ (drop_ne hk) e ho, List.append_nil]
theorem OInv.done (h : OInv a p src k ds) (hk : src.length ≤ k) : octDec a p src.length src = (ds, none) := by
  unfold OInv at h
  rw [h, List.drop_eq_nil_of_le hk, octDec_nil, List.append_nil]
end

theorem OInv.room {a : List UInt8} {p : Int} {src : List UInt8} {k m : Nat} {ds : List UInt8} {v : List Nat} {u : List UInt8} {fin : Bool} (h : OInv a p src k ds) (hk : k < src.length) (ho : oct a p src.length [] (src.drop k) = .got v u fin) (hu : fin = false → u = src.drop (k + 8)) (hr : (octDec a p src.length src).1.length ≤ m) : ds.length + (octBytes v).length ≤ m := by
  cases fin
  · rw [hu rfl] at ho
    have := h.step hk ho
    unfold OInv at this
    rw [this] at hr
    simp only [List.length_append] at hr
    omega
  · rw [h.fin hk u ho, List.length_append] at hr
    exact hr

/-- What has become of the row g from o on, when the bytes ds have been written. -/
def Wr32 (g o : Nat) (t : TypeId) (cur : List Value) (w : World) (ds : List UInt8) (wr : World) : Prop :=
  ∃ cur', Blm wr g t cur' ∧ cur'.length = cur.length ∧ (∀ (j : Nat) (x : UInt8), ds[j]? = some x → cur'[o + j]? = some (.int .u8 (x.toNat : Int))) ∧ (∀ i, i < o ∨ o + ds.length ≤ i → cur'[i]? = cur[i]?) ∧ w.grownBy wr (some g)

theorem Wr32.start {g o : Nat} {t : TypeId} {cur : List Value} {w : World} (hb : Blm w g t cur) : Wr32 g o t cur w [] w :=
  ⟨cur, hb, rfl, fun j x h => by simp at h, fun _ _ => rfl, grown_refl _ _⟩
theorem Wr32.below {g o : Nat} {t : TypeId} {cur : List Value} {w wr w' : World} {ds : List UInt8} (h : Wr32 g o t cur w ds wr) (hb : Below wr.heap.size wr w') : Wr32 g o t cur w ds w' := by
  obtain ⟨cur', a1, a2, a3, a4, a5⟩ := h
  exact ⟨cur', a1.below hb a1.lt, a2, a3, a4, grown_trans a5 (below_grown hb)⟩

/-- The bytes bs behind ds. -/
theorem Wr32.put {g o : Nat} {t : TypeId} {cur cur1 cur2 : List Value} {w wr w' : World} {ds bs : List UInt8} (h1 : cur1.length = cur.length) (h2 : ∀ (j : Nat) (x : UInt8), ds[j]? = some x → cur1[o + j]? = some (.int .u8 (x.toNat : Int))) (h3 : ∀ i, i < o ∨ o + ds.length ≤ i → cur1[i]? = cur[i]?) (hg : w.grownBy wr (some g))
    (b1 : Blm w' g t cur2) (b2 : cur2.length = cur1.length) (b3 : ∀ (j : Nat) (x : UInt8), bs[j]? = some x → cur2[o + ds.length + j]? = some (.int .u8 (x.toNat : Int))) (b4 : ∀ i, i < o + ds.length ∨ o + ds.length + bs.length ≤ i → cur2[i]? = cur1[i]?) (b5 : wr.grownBy w' (some g)) : Wr32 g o t cur w (ds ++ bs) w' := by
  refine ⟨cur2, b1, b2.trans h1, ?_, ?_, grown_trans hg b5⟩
  · intro j x hj
    rcases Nat.lt_or_ge j ds.length with hlt | hge
    · rw [List.getElem?_append_left hlt] at hj
      rw [b4 (o + j) (Or.inl (by omega))]
      exact h2 j x hj
    · rw [List.getElem?_append_right hge] at hj
      have := b3 _ x hj
      rw [show o + ds.length + (j - ds.length) = o + j by omega] at this
      exact this
  · intro i hi
    rw [List.length_append] at hi
    rw [b4 i (by omega)]
    exact h3 i (by omega)

theorem list0 (v : List Nat) (h : v.length = 0) : v = [] := List.eq_nil_of_length_eq_zero h
theorem list1 (v : List Nat) (h : v.length = 1) : ∃ x0, v = [x0] := by
  match v, h with
  | [x0], _ => exact ⟨x0, rfl⟩
theorem list2 (v : List Nat) (h : v.length = 2) : ∃ x0 x1, v = [x0, x1] := by
  match v, h with
  | [x0, x1], _ => exact ⟨x0, x1, rfl⟩
theorem list3 (v : List Nat) (h : v.length = 3) : ∃ x0 x1 x2, v = [x0, x1, x2] := by
  match v, h with
  | [x0, x1, x2], _ => exact ⟨x0, x1, x2, rfl⟩
theorem list4 (v : List Nat) (h : v.length = 4) : ∃ x0 x1 x2 x3, v = [x0, x1, x2, x3] := by
  match v, h with
  | [x0, x1, x2, x3], _ => exact ⟨x0, x1, x2, x3, rfl⟩
theorem list5 (v : List Nat) (h : v.length = 5) : ∃ x0 x1 x2 x3 x4, v = [x0, x1, x2, x3, x4] := by
  match v, h with
  | [x0, x1, x2, x3, x4], _ => exact ⟨x0, x1, x2, x3, x4, rfl⟩
theorem list6 (v : List Nat) (h : v.length = 6) : ∃ x0 x1 x2 x3 x4 x5, v = [x0, x1, x2, x3, x4, x5] := by
  match v, h with
  | [x0, x1, x2, x3, x4, x5], _ => exact ⟨x0, x1, x2, x3, x4, x5, rfl⟩
theorem list7 (v : List Nat) (h : v.length = 7) : ∃ x0 x1 x2 x3 x4 x5 x6, v = [x0, x1, x2, x3, x4, x5, x6] := by
  match v, h with
  | [x0, x1, x2, x3, x4, x5, x6], _ => exact ⟨x0, x1, x2, x3, x4, x5, x6, rfl⟩
theorem list8 (v : List Nat) (h : v.length = 8) : ∃ x0 x1 x2 x3 x4 x5 x6 x7, v = [x0, x1, x2, x3, x4, x5, x6, x7] := by
  match v, h with
  | [x0, x1, x2, x3, x4, x5, x6, x7], _ => exact ⟨x0, x1, x2, x3, x4, x5, x6, x7, rfl⟩

/-- src may be read, from the k-th character on; it lies apart from the row g, or not before o in it. -/
def Rs32 (w : World) (g o b off : Nat) (src : List UInt8) : Prop :=
  (b ≠ g ∨ o ≤ off) ∧ ∀ (j : Nat) (x : UInt8), src[j]? = some x → w.cell? ⟨b, off + j, none⟩ = some (.int .u8 (x.toNat : Int))

theorem Rs32.now {w wr : World} {g o b off : Nat} {t : TypeId} {cur : List Value} {src ds : List UInt8} (h : Rs32 w g o b off src) (hcur : Blm w g t cur) (hw : Wr32 g o t cur w ds wr) (j : Nat) (hj : ds.length ≤ j) (x : UInt8) (hx : src[j]? = some x) : wr.cell? ⟨b, off + j, none⟩ = some (.int .u8 (x.toNat : Int)) := by
  obtain ⟨h1, h2⟩ := h
  obtain ⟨cur', a1, a2, a3, a4, a5⟩ := hw
  have hc := h2 j x hx
  by_cases hbg : b = g
  · subst hbg
    rcases h1 with h1 | h1
    · exact absurd rfl h1
    · rw [a1.cell, a4 _ (Or.inr (by omega))]
      rw [hcur.cell] at hc
      exact hc
  · exact a5.cell hc (by simpa using hbg)

end Go.Proofs.Ytkiipbpcaakkoaa
