/-
  Plain facts for the walk of base64's decodeQuantum: single steps of a quantum, the cells of its buffer, the bits of its bytes. No program in sight. Conditions: as each states.
-/
import Derived.Test.YtkiipbpcaakkoaaDecU
import Derived.Test.YtkiipbpcaakkoaaBits
import Derived.Test.YtkiipbpcaakkoaaLawsB
namespace Go.Proofs.Ytkiipbpcaakkoaa
open Go.RowKit

/-- An error with a number, or none. -/
def errV (T : TypeId) : Option Int → Value
  | none => .nilIface
  | some e => .iface T (.int .i64 e)

/-- The buffer of a quantum. -/
def dcells (v : List Nat) : List Value := (v.map fun x : Nat => Value.int .u8 (x : Int)) ++ List.replicate (4 - v.length) (Value.int .u8 0)

theorem dcells_length (v : List Nat) (h : v.length ≤ 4) : (dcells v).length = 4 := by simp [dcells]; omega
theorem dcells_next (v : List Nat) (h : v.length < 4) : (dcells v)[v.length]? = some (.int .u8 0) := by
  unfold dcells
  rw [List.getElem?_append_right (by simp), List.length_map, Nat.sub_self, List.getElem?_replicate, if_pos (by omega)]
theorem dcells_set (v : List Nat) (x : Nat) (h : v.length < 4) : (dcells v).set v.length (.int .u8 (x : Int)) = dcells (v ++ [x]) := by
  unfold dcells
  rw [List.set_append_right _ _ (by simp), List.length_map, Nat.sub_self, List.map_append, List.append_assoc]
  congr 1
  rw [show 4 - v.length = (4 - (v ++ [x]).length) + 1 by simp; omega, List.replicate_succ]
  rfl

section
variable {a : List UInt8} {p : Int} {n : Nat} {src : List UInt8} {v : List Nat} {k : Nat} {c : UInt8}
theorem quant_end (h : src.length ≤ k) : quant a p n v (src.drop k) k = if v.length = 0 then .none k else if v.length = 1 ∨ p ≠ -1 then .bad k ((k : Int) - (v.length : Int)) else .got k v none := by
  rw [List.drop_eq_nil_of_le h, quant]
theorem quant_letter (hc : src[k]? = some c) (h : isL a c = true) (h3 : v.length ≠ 3) : quant a p n v (src.drop k) k = quant a p n (v ++ [numL a c]) (src.drop (k + 1)) (k + 1) := by
  rw [drop_cons _ _ _ hc, quant, if_pos h, if_neg h3]
theorem quant_last (hc : src[k]? = some c) (h : isL a c = true) (h3 : v.length = 3) : quant a p n v (src.drop k) k = .got (k + 1) (v ++ [numL a c]) none := by
  rw [drop_cons _ _ _ hc, quant, if_pos h, if_pos h3]
theorem quant_nl (hc : src[k]? = some c) (h : isL a c = false) (h2 : isNL c = true) : quant a p n v (src.drop k) k = quant a p n v (src.drop (k + 1)) (k + 1) := by
  rw [drop_cons _ _ _ hc, quant, if_neg (by rw [h]; simp), if_pos h2]
theorem quant_other (hc : src[k]? = some c) (h : isL a c = false) (h2 : isNL c = false) (hp : (c.toNat : Int) ≠ p) : quant a p n v (src.drop k) k = .bad (k + 1) (k : Int) := by
  rw [drop_cons _ _ _ hc, quant, if_neg (by rw [h]; simp), if_neg (by rw [h2]; simp), if_pos hp]
theorem quant_low (hc : src[k]? = some c) (h : isL a c = false) (h2 : isNL c = false) (hp : (c.toNat : Int) = p) (hv : v.length < 2) : quant a p n v (src.drop k) k = .bad (k + 1) (k : Int) := by
  rw [drop_cons _ _ _ hc, quant, if_neg (by rw [h]; simp), if_neg (by rw [h2]; simp), if_neg (by simpa using hp), if_pos hv]
theorem quant_pad (hc : src[k]? = some c) (h : isL a c = false) (h2 : isNL c = false) (hp : (c.toNat : Int) = p) (hv : ¬ v.length < 2) : quant a p n v (src.drop k) k = quantPad p n v (src.drop (k + 1)) (k + 1) := by
  rw [drop_cons _ _ _ hc, quant, if_neg (by rw [h]; simp), if_neg (by rw [h2]; simp), if_neg (by simpa using hp), if_neg hv]
theorem skip_nl (hc : src[k]? = some c) (h : isNL c = true) : skipNL (src.drop k) k = skipNL (src.drop (k + 1)) (k + 1) := by
  rw [drop_cons _ _ _ hc, skipNL, if_pos h]
theorem skip_stop (hc : src[k]? = some c) (h : isNL c = false) : skipNL (src.drop k) k = (c :: src.drop (k + 1), k) := by
  rw [drop_cons _ _ _ hc, skipNL, if_neg (by rw [h]; simp)]
theorem skip_end (h : src.length ≤ k) : skipNL (src.drop k) k = ([], k) := by
  rw [List.drop_eq_nil_of_le h, skipNL]
end

theorem nl_cases (c : UInt8) : (isNL c = true ∧ ((c.toNat : Int) == 10) = true) ∨ (isNL c = true ∧ ((c.toNat : Int) == 10) = false ∧ ((c.toNat : Int) == 13) = true) ∨ (isNL c = false ∧ ((c.toNat : Int) == 10) = false ∧ ((c.toNat : Int) == 13) = false) := by
  unfold isNL
  by_cases h1 : c.toNat = 10
  · left; simp [h1]
  · by_cases h2 : c.toNat = 13
    · right; left; simp [h2]
    · right; right
      refine ⟨by simp [h1, h2], ?_, ?_⟩ <;> simp <;> omega

theorem map_letter {a : List UInt8} {c : UInt8} {N : Nat} (h : isL a c = true) (hN : a.length = N) : mapAt a N c.toNat = ((numL a c : Nat) : Int) ∧ numL a c < N := by
  unfold isL at h
  have hi := of_decide_eq_true h
  have hr := idx_range a (c.toNat : Int)
  unfold mapAt numL
  rw [if_pos (by omega)]
  omega
theorem map_other {a : List UInt8} {c : UInt8} {N : Nat} (h : isL a c = false) : mapAt a N c.toNat = 255 := by
  unfold isL at h
  have hi := of_decide_eq_false h
  unfold mapAt
  rw [if_neg (by omega)]

theorem four64 (x y z u : Nat) (hx : x < 64) (hy : y < 64) (hz : z < 64) (hu : u < 64) :
    bits .or .u64 (bits .or .u64 (bits .or .u64 ((x : Int) * 262144) ((y : Int) * 4096)) ((z : Int) * 64)) (u : Int) = ((x * 262144 + y * 4096 + z * 64 + u : Nat) : Int) := by
  have h1 := or64 x (y * 4096) 18 (by omega) (by omega) (by omega)
  have e1 : bits .or .u64 ((x : Int) * 262144) ((y : Int) * 4096) = ((x * 262144 + y * 4096 : Nat) : Int) := by simpa [Int.natCast_mul] using h1
  have h2 := or64 (x * 64 + y) (z * 64) 12 (by omega) (by omega) (by omega)
  have e2 : x * 262144 + y * 4096 = (x * 64 + y) * 2 ^ 12 := by omega
  have e3 : bits .or .u64 (((x * 262144 + y * 4096 : Nat) : Int)) ((z : Int) * 64) = ((x * 262144 + y * 4096 + z * 64 : Nat) : Int) := by
    rw [e2, Int.natCast_mul]
    have : ((z : Int) * 64) = ((z * 64 : Nat) : Int) := by omega
    rw [this, h2]
  have h4 := or64 (x * 4096 + y * 64 + z) u 6 (by omega) (by omega) (by omega)
  have e4 : x * 262144 + y * 4096 + z * 64 = (x * 4096 + y * 64 + z) * 2 ^ 6 := by rw [show (2 : Nat) ^ 6 = 64 from rfl, Nat.add_mul, Nat.add_mul, Nat.mul_assoc, Nat.mul_assoc]
  rw [e1, e3, e4, Int.natCast_mul, h4]

theorem below_grown {w w' : World} {row : Option Nat} (h : Below w.heap.size w w') : w.grownBy w' row := ⟨h.os, h.tape, h.output, h.size, fun k hk _ => h.block k hk⟩

theorem quantPad_v (p : Int) (n : Nat) (v : List Nat) (r : List UInt8) (si k : Nat) (v' : List Nat) (err : Option Int) (h : quantPad p n v r si = .got k v' err) : v' = v := (quantPad_got [] p n v r si k v' err h).1
theorem quant_lt (a : List UInt8) (p : Int) (n N : Nat) (hN : a.length = N) : ∀ (r : List UInt8) (v : List Nat) (si k : Nat) (v' : List Nat) (err : Option Int), (∀ x ∈ v, x < N) → quant a p n v r si = .got k v' err → ∀ x ∈ v', x < N
  | [], v, si, k, v', err, hv, h => by
    unfold quant at h
    split at h
    · cases h
    · split at h
      · cases h
      · simp only [Quant.got.injEq] at h
        rw [← h.2.1]; exact hv
  | c :: r, v, si, k, v', err, hv, h => by
    unfold quant at h
    split at h
    · rename_i hc
      have hx := (map_letter hc hN).2
      have hv2 : ∀ x ∈ v ++ [numL a c], x < N := by
        intro x hm
        rcases List.mem_append.1 hm with h | h
        · exact hv x h
        · rw [List.mem_singleton] at h
          rw [h]; exact hx
      split at h
      · simp only [Quant.got.injEq] at h
        rw [← h.2.1]; exact hv2
      · exact quant_lt a p n N hN r _ (si + 1) k v' err hv2 h
    · split at h
      · exact quant_lt a p n N hN r v (si + 1) k v' err hv h
      · split at h
        · cases h
        · split at h
          · cases h
          · rw [quantPad_v p n v r (si + 1) k v' err h]; exact hv

/-- Each cell is as it was, or a byte. -/
def AsOr (cur cur' : List Value) : Prop := ∀ i : Nat, cur'[i]? = cur[i]? ∨ ∃ x : UInt8, cur'[i]? = some (Value.int .u8 (x.toNat : Int))
theorem AsOr.refl (cur : List Value) : AsOr cur cur := fun _ => Or.inl rfl
theorem AsOr.set {cur cur' : List Value} (h : AsOr cur cur') (k B : Nat) (hB : B < 256) : AsOr cur (cur'.set k (.int .u8 (B : Int))) := fun i => by
  by_cases e : k = i
  · subst e
    rcases Nat.lt_or_ge k cur'.length with hk | hk
    · right
      exact ⟨UInt8.ofNat B, by rw [List.getElem?_set_self hk, UInt8.toNat_ofNat_of_lt' (by show _ < 256; omega)]⟩
    · rw [List.set_eq_of_length_le hk]; exact h k
  · rw [List.getElem?_set_ne e]; exact h i
theorem AsOr.trans {a b c : List Value} (h1 : AsOr a b) (h2 : AsOr b c) : AsOr a c := fun i => by
  rcases h2 i with h | h
  · rw [h]; exact h1 i
  · exact Or.inr h

/-- What decodeQuantum leaves: the results, and what has become of the row g from o on. -/
def QPost (T : TypeId) (st : Bool) (Q : Quant) (g o : Nat) (t : TypeId) (cur : List Value) (w : World) (e : Ending) (w' : World) : Prop :=
  e = .returned (.tuple #[.int .i64 ((quantRes st Q).1 : Int), .int .i64 ((quantRes st Q).2.1.length : Int), errV T (quantRes st Q).2.2]) ∧
    ∃ cur', Blk w' g t cur' ∧ cur'.length = cur.length ∧ (∀ j x, (quantRes st Q).2.1[j]? = some x → cur'[o + j]? = some (.int .u8 (x.toNat : Int))) ∧
      (∀ i, i < o ∨ (o + (quantRes st Q).2.1.length ≤ i ∧ o + 2 ≤ i) → cur'[i]? = cur[i]?) ∧ w.grownBy w' (some g) ∧ AsOr cur cur'

theorem qpost_none {T : TypeId} {st : Bool} {Q : Quant} {g o : Nat} {t : TypeId} {cur : List Value} {w w' : World} {k : Nat} (hQ : Q = .none k) (hb : Blk w g t cur) (hw : Below w.heap.size w w') :
    QPost T st Q g o t cur w (.returned (.tuple #[.int .i64 (k : Int), .int .i64 0, .nilIface])) w' := by
  subst hQ
  exact ⟨rfl, cur, hb.below hw hb.lt, rfl, fun j x h => by simp [quantRes] at h, fun _ _ => rfl, below_grown hw, AsOr.refl _⟩
theorem qpost_bad {T : TypeId} {st : Bool} {Q : Quant} {g o : Nat} {t : TypeId} {cur : List Value} {w w' : World} {k : Nat} {e : Int} (hQ : Q = .bad k e) (hb : Blk w g t cur) (hw : Below w.heap.size w w') (kI eI : Int) (hk : kI = (k : Int)) (he : eI = e) :
    QPost T st Q g o t cur w (.returned (.tuple #[.int .i64 kI, .int .i64 0, .iface T (.int .i64 eI)])) w' := by
  subst hQ hk he
  exact ⟨rfl, cur, hb.below hw hb.lt, rfl, fun j x h => by simp [quantRes] at h, fun _ _ => rfl, below_grown hw, AsOr.refl _⟩

theorem grown_new {a w : World} {row : Option Nat} (h : a.grownBy w row) {p : Addr} (hp : a.heap.size ≤ p.block) (u : Value) : a.grownBy (w.setCell p u) row :=
  ⟨h.os, h.tape, h.output, by simpa [World.setCell] using h.size, fun k hk hne => (Below.heap_setCell w p u k (by omega)).trans (h.block k hk hne)⟩

theorem qpost_4 {T : TypeId} {st : Bool} {Q : Quant} {g o : Nat} {t : TypeId} {cur : List Value} {w w' : World} {k b0 b1 b2 b3 B0 B1 B2 : Nat} (hQ : Q = .got k [b0, b1, b2, b3] none)
    (hb : Blk w' g t (((cur.set (o + 2) (.int .u8 (B2 : Int))).set (o + 1) (.int .u8 (B1 : Int))).set o (.int .u8 (B0 : Int)))) (hfit : o + 3 ≤ cur.length) (hg : w.grownBy w' (some g))
    (e0 : B0 = b0 * 4 + b1 / 16) (e1 : B1 = b1 % 16 * 16 + b2 / 4) (e2 : B2 = b2 % 4 * 64 + b3) (l0 : B0 < 256) (l1 : B1 < 256) (l2 : B2 < 256) :
    QPost T st Q g o t cur w (.returned (.tuple #[.int .i64 (k : Int), .int .i64 3, .nilIface])) w' := by
  have hr : quantRes st Q = (k, [UInt8.ofNat B0, UInt8.ofNat B1, UInt8.ofNat B2], none) := by
    subst hQ
    have hn : ¬ (st = true ∧ unusedOf [b0, b1, b2, b3] ≠ 0) := by simp [unusedOf]
    simp only [quantRes, if_neg hn, bytesOf, e0, e1, e2]
  unfold QPost
  rw [hr]
  refine ⟨rfl, _, hb, by simp, ?_, ?_, hg, (((AsOr.refl cur).set _ _ l2).set _ _ l1).set _ _ l0⟩
  · intro j x hj
    match j, hj with
    | 0, hj =>
      simp only [List.getElem?_cons_zero, Option.some.injEq] at hj
      rw [← hj]
      show (List.set _ o _)[o]? = _
      rw [List.getElem?_set_self (by simp; omega), UInt8.toNat_ofNat_of_lt' (by show _ < 256; omega)]
    | 1, hj =>
      simp only [List.getElem?_cons_succ, List.getElem?_cons_zero, Option.some.injEq] at hj
      rw [← hj, List.getElem?_set_ne (by omega), List.getElem?_set_self (by simp; omega), UInt8.toNat_ofNat_of_lt' (by show _ < 256; omega)]
    | 2, hj =>
      simp only [List.getElem?_cons_succ, List.getElem?_cons_zero, Option.some.injEq] at hj
      rw [← hj, List.getElem?_set_ne (by omega), List.getElem?_set_ne (by omega), List.getElem?_set_self (by omega), UInt8.toNat_ofNat_of_lt' (by show _ < 256; omega)]
    | j + 3, hj => simp at hj
  · intro i hi
    simp only [List.length_cons, List.length_nil] at hi
    rw [List.getElem?_set_ne (by omega), List.getElem?_set_ne (by omega), List.getElem?_set_ne (by omega)]

theorem qpost_3 {T : TypeId} {st : Bool} {Q : Quant} {g o : Nat} {t : TypeId} {cur : List Value} {w w' : World} {k b0 b1 b2 B0 B1 : Nat} {err : Option Int} (hQ : Q = .got k [b0, b1, b2] err)
    (hb : Blk w' g t ((cur.set (o + 1) (.int .u8 (B1 : Int))).set o (.int .u8 (B0 : Int)))) (hfit : o + 2 ≤ cur.length) (hg : w.grownBy w' (some g))
    (e0 : B0 = b0 * 4 + b1 / 16) (e1 : B1 = b1 % 16 * 16 + b2 / 4) (l0 : B0 < 256) (l1 : B1 < 256) (hu : st = false ∨ b2 % 4 = 0) :
    QPost T st Q g o t cur w (.returned (.tuple #[.int .i64 (k : Int), .int .i64 2, errV T err])) w' := by
  have hr : quantRes st Q = (k, [UInt8.ofNat B0, UInt8.ofNat B1], err) := by
    subst hQ
    have hn : ¬ (st = true ∧ unusedOf [b0, b1, b2] ≠ 0) := by rcases hu with h | h <;> simp [h, unusedOf]
    simp only [quantRes, if_neg hn, bytesOf, e0, e1]
  unfold QPost
  rw [hr]
  refine ⟨rfl, _, hb, by simp, ?_, ?_, hg, ((AsOr.refl cur).set _ _ l1).set _ _ l0⟩
  · intro j x hj
    match j, hj with
    | 0, hj =>
      simp only [List.getElem?_cons_zero, Option.some.injEq] at hj
      rw [← hj]
      show (List.set _ o _)[o]? = _
      rw [List.getElem?_set_self (by simp; omega), UInt8.toNat_ofNat_of_lt' (by show _ < 256; omega)]
    | 1, hj =>
      simp only [List.getElem?_cons_succ, List.getElem?_cons_zero, Option.some.injEq] at hj
      rw [← hj, List.getElem?_set_ne (by omega), List.getElem?_set_self (by omega), UInt8.toNat_ofNat_of_lt' (by show _ < 256; omega)]
    | j + 2, hj => simp at hj
  · intro i hi
    simp only [List.length_cons, List.length_nil] at hi
    rw [List.getElem?_set_ne (by omega), List.getElem?_set_ne (by omega)]

theorem qpost_3s {T : TypeId} {Q : Quant} {g o : Nat} {t : TypeId} {cur : List Value} {w w' : World} {k b0 b1 b2 u : Nat} {err : Option Int} (hQ : Q = .got k [b0, b1, b2] err) (hub : u < 256)
    (hb : Blk w' g t (cur.set (o + 1) (.int .u8 (u : Int)))) (hg : w.grownBy w' (some g)) (hu : b2 % 4 ≠ 0) (eI : Int) (he : eI = (k : Int) - 1) :
    QPost T true Q g o t cur w (.returned (.tuple #[.int .i64 (k : Int), .int .i64 0, .iface T (.int .i64 eI)])) w' := by
  have hr : quantRes true Q = (k, [], some ((k : Int) - 1)) := by
    subst hQ
    have hn : (true = true ∧ unusedOf [b0, b1, b2] ≠ 0) := ⟨rfl, hu⟩
    exact if_pos hn
  subst he
  unfold QPost
  rw [hr]
  refine ⟨rfl, _, hb, by simp, fun j x hj => by simp at hj, ?_, hg, (AsOr.refl cur).set _ _ hub⟩
  intro i hi
  simp only [List.length_nil] at hi
  rw [List.getElem?_set_ne (by omega)]

theorem qpost_2 {T : TypeId} {st : Bool} {Q : Quant} {g o : Nat} {t : TypeId} {cur : List Value} {w w' : World} {k b0 b1 B0 : Nat} {err : Option Int} (hQ : Q = .got k [b0, b1] err)
    (hb : Blk w' g t (cur.set o (.int .u8 (B0 : Int)))) (hfit : o + 1 ≤ cur.length) (hg : w.grownBy w' (some g))
    (e0 : B0 = b0 * 4 + b1 / 16) (l0 : B0 < 256) (hu : st = false ∨ b1 % 16 = 0) :
    QPost T st Q g o t cur w (.returned (.tuple #[.int .i64 (k : Int), .int .i64 1, errV T err])) w' := by
  have hr : quantRes st Q = (k, [UInt8.ofNat B0], err) := by
    subst hQ
    have hn : ¬ (st = true ∧ unusedOf [b0, b1] ≠ 0) := by rcases hu with h | h <;> simp [h, unusedOf]
    simp only [quantRes, if_neg hn, bytesOf, e0]
  unfold QPost
  rw [hr]
  refine ⟨rfl, _, hb, by simp, ?_, ?_, hg, (AsOr.refl cur).set _ _ l0⟩
  · intro j x hj
    match j, hj with
    | 0, hj =>
      simp only [List.getElem?_cons_zero, Option.some.injEq] at hj
      rw [← hj]
      show (List.set _ o _)[o]? = _
      rw [List.getElem?_set_self (by omega), UInt8.toNat_ofNat_of_lt' (by show _ < 256; omega)]
    | j + 1, hj => simp at hj
  · intro i hi
    simp only [List.length_cons, List.length_nil] at hi
    rw [List.getElem?_set_ne (by omega)]

theorem qpost_2s {T : TypeId} {Q : Quant} {g o : Nat} {t : TypeId} {cur : List Value} {w w' : World} {k b0 b1 u : Nat} {err : Option Int} (hQ : Q = .got k [b0, b1] err) (hub : u < 256)
    (hb : Blk w' g t (cur.set o (.int .u8 (u : Int)))) (hg : w.grownBy w' (some g)) (hu : b1 % 16 ≠ 0) (eI : Int) (he : eI = (k : Int) - 2) :
    QPost T true Q g o t cur w (.returned (.tuple #[.int .i64 (k : Int), .int .i64 0, .iface T (.int .i64 eI)])) w' := by
  have hr : quantRes true Q = (k, [], some ((k : Int) - 2)) := by
    subst hQ
    have hn : (true = true ∧ unusedOf [b0, b1] ≠ 0) := ⟨rfl, hu⟩
    exact if_pos hn
  subst he
  unfold QPost
  rw [hr]
  refine ⟨rfl, _, hb, by simp, fun j x hj => by simp at hj, ?_, hg, (AsOr.refl cur).set _ _ hub⟩
  intro i hi
  simp only [List.length_nil] at hi
  rw [List.getElem?_set_ne (by omega)]

end Go.Proofs.Ytkiipbpcaakkoaa
