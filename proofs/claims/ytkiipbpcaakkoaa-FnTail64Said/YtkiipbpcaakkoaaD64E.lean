/-
  Plain facts for the walk of base64's Decode: what holds between two rounds, and how a quantum, or four or eight letters, carry it on. No program in sight. Conditions: as each states.
-/
import Derived.Test.YtkiipbpcaakkoaaD64R
namespace Go.Proofs.Ytkiipbpcaakkoaa
open Go.RowKit
set_option linter.unusedVariables false

/-- What has become of the row g from o on, when the bytes ds have been written. -/
def Wrote (g o : Nat) (t : TypeId) (cur : List Value) (w : World) (ds : List UInt8) (wr : World) : Prop :=
  ∃ cur', Blk wr g t cur' ∧ cur'.length = cur.length ∧ (∀ j x, ds[j]? = some x → cur'[o + j]? = some (.int .u8 (x.toNat : Int))) ∧ (∀ i, i < o ∨ o + ds.length + 2 ≤ i → cur'[i]? = cur[i]?) ∧ w.grownBy wr (some g) ∧ AsOr cur cur'

/-- What Decode leaves. -/
def DPost (T : TypeId) (R : List UInt8 × Option Int) (g o : Nat) (t : TypeId) (cur : List Value) (w : World) (e : Ending) (w' : World) : Prop :=
  e = .returned (.tuple #[.int .i64 (R.1.length : Int), errV T R.2]) ∧ Wrote g o t cur w R.1 w'

/-- What holds between two rounds: k characters have been read, the bytes ds have been written. -/
def DInv (a : List UInt8) (p : Int) (st : Bool) (src : List UInt8) (m k : Nat) (ds : List UInt8) : Prop :=
  decOf a p st src = (ds ++ (decFrom a p st src k).1, (decFrom a p st src k).2) ∧ ds.length + (decFrom a p false src k).1.length ≤ m

/-- What holds of the slots between two rounds. -/
def DRel (N : Nat) (a : List UInt8) (p : Int) (st : Bool) (src : List UInt8) (m g o : Nat) (t : TypeId) (cur : List Value) (w : World) (s6 s7 s8 : Value) (wr : World) : Prop :=
  ∃ (k n : Nat) (ds : List UInt8), k ≤ N ∧ n ≤ m ∧ s6 = .int .i64 (n : Int) ∧ s7 = .nilIface ∧ s8 = .int .i64 (k : Int) ∧ Hid (ds.length = n) ∧ Hid (DInv a p st src m k ds) ∧ Hid (Wrote g o t cur w ds wr)

theorem Wrote.start {g o : Nat} {t : TypeId} {cur : List Value} {w : World} (hb : Blk w g t cur) : Wrote g o t cur w [] w :=
  ⟨cur, hb, rfl, fun j x h => by simp at h, fun _ _ => rfl, grown_refl _ _, AsOr.refl _⟩

theorem Wrote.drewN {g o : Nat} {t : TypeId} {cur : List Value} {w wr : World} {ds : List UInt8} (h : Wrote g o t cur w ds wr) (q : Nat) : Wrote g o t cur w ds (wr.drewN q) := by
  obtain ⟨cur', a1, a2, a3, a4, a5, a6⟩ := h
  exact ⟨cur', a1.drewN q, a2, a3, a4, grown_drewN a5 q, a6⟩

theorem DInv.start {a : List UInt8} {p : Int} {st : Bool} {src : List UInt8} {m : Nat} (h : (decOf a p false src).1.length ≤ m) : DInv a p st src m 0 [] :=
  ⟨by unfold decOf; simp, by unfold decOf at h; simpa using h⟩

theorem quantRes_false (Q : Quant) (st : Bool) (h : (quantRes st Q).2.2 = none) : quantRes st Q = quantRes false Q := by
  cases Q with
  | none k => rfl
  | bad k e => rfl
  | got k v err =>
    simp only [quantRes] at h ⊢
    by_cases hs : st = true ∧ unusedOf v ≠ 0
    · rw [if_pos hs] at h; cases h
    · rw [if_neg hs, if_neg (by simp)]

/-- A quantum without an error. -/
theorem DInv.step {a : List UInt8} {p : Int} {st : Bool} {src : List UInt8} {m k : Nat} {ds : List UInt8} (h : DInv a p st src m k ds) (hk : k < src.length) (he : (quantAt a p st src k).2.2 = none) :
    DInv a p st src m (quantAt a p st src k).1 (ds ++ (quantAt a p st src k).2.1) := by
  obtain ⟨h1, h2⟩ := h
  have hf : quantAt a p st src k = quantAt a p false src k := quantRes_false _ _ he
  refine ⟨?_, ?_⟩
  · rw [h1, decFrom_step a p st src k hk he, List.append_assoc]
  · rw [decFrom_step a p false src k hk (by rw [← hf]; exact he), ← hf, List.length_append] at h2
    rw [List.length_append]
    omega
/-- A quantum with an error. -/
theorem DInv.stop {a : List UInt8} {p : Int} {st : Bool} {src : List UInt8} {m k : Nat} {ds : List UInt8} (h : DInv a p st src m k ds) (hk : k < src.length) (e : Int) (he : (quantAt a p st src k).2.2 = some e) :
    decOf a p st src = (ds ++ (quantAt a p st src k).2.1, some e) := by
  rw [h.1, decFrom_bad a p st src k hk e he]
theorem DInv.fin {a : List UInt8} {p : Int} {st : Bool} {src : List UInt8} {m k : Nat} {ds : List UInt8} (h : DInv a p st src m k ds) (hk : src.length ≤ k) : decOf a p st src = (ds, none) := by
  rw [h.1, decFrom_end a p st src k hk, List.append_nil]
/-- There is room for a quantum. -/
theorem DInv.room {a : List UInt8} {p : Int} {st : Bool} {src : List UInt8} {m k : Nat} {ds : List UInt8} (h : DInv a p st src m k ds) (hk : k < src.length) (k' : Nat) (v : List Nat) (err : Option Int) (hq : quant a p src.length [] (src.drop k) k = .got k' v err) : v.length - 1 ≤ m - ds.length := by
  have h2 := h.2
  obtain ⟨g1, g2, _⟩ := quant_got a p src.length (src.drop k) [] k k' v err (by simp) hq
  have hb := bytesOf_length v g1 g2
  have hqa : quantAt a p false src k = (k', bytesOf v, err) := by
    unfold quantAt
    rw [hq]
    simp only [quantRes]
    rw [if_neg (by simp)]
  have hle : v.length - 1 ≤ (decFrom a p false src k).1.length := by
    cases err with
    | none => rw [decFrom_step a p false src k hk (by rw [hqa]), hqa, List.length_append, hb]; omega
    | some e => rw [decFrom_bad a p false src k hk e (by rw [hqa]), hqa, hb]; exact Nat.le_refl _
  omega
theorem DInv.room2 {a : List UInt8} {p : Int} {st : Bool} {src : List UInt8} {m k : Nat} {ds : List UInt8} (h : DInv a p st src m k ds) (hk : k < src.length) : (quantAt a p st src k).2.1.length ≤ m - ds.length := by
  have hr := h.room hk
  unfold quantAt
  cases hq : quant a p src.length [] (src.drop k) k with
  | none k' => simp [quantRes]
  | bad k' e => simp [quantRes]
  | got k' v err =>
    obtain ⟨g1, g2, _⟩ := quant_got a p src.length (src.drop k) [] k k' v err (by simp) hq
    have hb := bytesOf_length v g1 g2
    have := hr k' v err hq
    simp only [quantRes]
    split
    · simp
    · simp only [hb]; exact this
theorem DInv.four {a : List UInt8} {p : Int} {st : Bool} {src : List UInt8} {m k : Nat} {ds : List UInt8} (h : DInv a p st src m k ds) (c0 c1 c2 c3 : UInt8) (e0 : src[k]? = some c0) (e1 : src[k + 1]? = some c1) (e2 : src[k + 2]? = some c2) (e3 : src[k + 3]? = some c3)
    (h0 : isL a c0 = true) (h1 : isL a c1 = true) (h2 : isL a c2 = true) (h3 : isL a c3 = true) : DInv a p st src m (k + 4) (ds ++ bytesOf [numL a c0, numL a c1, numL a c2, numL a c3]) := by
  have hq := quantAt_four a p st src k c0 c1 c2 c3 e0 e1 e2 e3 h0 h1 h2 h3
  have := h.step (List.getElem?_eq_some_iff.1 e0).1 (by rw [hq])
  rw [hq] at this
  exact this

theorem Wrote.quant {T : TypeId} {st : Bool} {Q : Quant} {g o : Nat} {t : TypeId} {cur cur1 : List Value} {w wr w' : World} {ds : List UInt8} {e : Ending} (h1 : cur1.length = cur.length) (h2 : ∀ j x, ds[j]? = some x → cur1[o + j]? = some (.int .u8 (x.toNat : Int))) (h3 : ∀ i, i < o ∨ o + ds.length + 2 ≤ i → cur1[i]? = cur[i]?) (hg : w.grownBy wr (some g)) (hao : AsOr cur cur1)
    (hq : QPost T st Q g (o + ds.length) t cur1 wr e w') : e = .returned (.tuple #[.int .i64 ((quantRes st Q).1 : Int), .int .i64 ((quantRes st Q).2.1.length : Int), errV T (quantRes st Q).2.2]) ∧ Wrote g o t cur w (ds ++ (quantRes st Q).2.1) w' := by
  obtain ⟨he, cur2, b1, b2, b3, b4, b5, b6⟩ := hq
  refine ⟨he, cur2, b1, b2.trans h1, ?_, ?_, grown_trans hg b5, hao.trans b6⟩
  · intro j x hj
    rcases Nat.lt_or_ge j ds.length with hlt | hge
    · rw [List.getElem?_append_left hlt] at hj
      rw [b4 (o + j) (Or.inl (by omega))]
      exact h2 j x hj
    · rw [List.getElem?_append_right hge] at hj
      have := b3 _ x hj
      rw [show o + ds.length + (j - ds.length) = o + j by omega] at this
      exact this
  · intro i hi
    rw [List.length_append] at hi
    rw [b4 i (by omega)]
    exact h3 i (by omega)

theorem sets4_facts (L : List Value) (o B0 B1 B2 B3 : Nat) (bs : List UInt8) (h : o + 4 ≤ L.length) (hb : bs = [UInt8.ofNat B0, UInt8.ofNat B1, UInt8.ofNat B2]) (l0 : B0 < 256) (l1 : B1 < 256) (l2 : B2 < 256) :
    ((((L.set (o) (.int .u8 (B0 : Int))).set (o + 1) (.int .u8 (B1 : Int))).set (o + 2) (.int .u8 (B2 : Int))).set (o + 3) (.int .u8 (B3 : Int))).length = L.length ∧ (∀ j x, bs[j]? = some x → ((((L.set (o) (.int .u8 (B0 : Int))).set (o + 1) (.int .u8 (B1 : Int))).set (o + 2) (.int .u8 (B2 : Int))).set (o + 3) (.int .u8 (B3 : Int)))[o + j]? = some (.int .u8 (x.toNat : Int))) ∧ (∀ i, i < o ∨ o + 4 ≤ i → ((((L.set (o) (.int .u8 (B0 : Int))).set (o + 1) (.int .u8 (B1 : Int))).set (o + 2) (.int .u8 (B2 : Int))).set (o + 3) (.int .u8 (B3 : Int)))[i]? = L[i]?) := by
  subst hb
  refine ⟨by simp, ?_, ?_⟩
  · intro j x hj
    match j, hj with
    | 0, hj =>
      simp only [List.getElem?_cons_zero, Option.some.injEq] at hj
      rw [← hj, UInt8.toNat_ofNat_of_lt' (by show _ < 256; omega)]
      show (List.set _ _ _)[o]? = _
      rw [List.getElem?_set_ne (by omega)]
      rw [List.getElem?_set_ne (by omega)]
      rw [List.getElem?_set_ne (by omega)]
      rw [List.getElem?_set_self (by first | omega | (simp only [List.length_set]; omega))]
    | 1, hj =>
      simp only [List.getElem?_cons_succ, List.getElem?_cons_zero, Option.some.injEq] at hj
      rw [← hj, UInt8.toNat_ofNat_of_lt' (by show _ < 256; omega)]
      rw [List.getElem?_set_ne (by omega)]
      rw [List.getElem?_set_ne (by omega)]
      rw [List.getElem?_set_self (by first | omega | (simp only [List.length_set]; omega))]
    | 2, hj =>
      simp only [List.getElem?_cons_succ, List.getElem?_cons_zero, Option.some.injEq] at hj
      rw [← hj, UInt8.toNat_ofNat_of_lt' (by show _ < 256; omega)]
      rw [List.getElem?_set_ne (by omega)]
      rw [List.getElem?_set_self (by first | omega | (simp only [List.length_set]; omega))]
    | j + 3, hj => simp at hj
  · intro i hi
    rw [List.getElem?_set_ne (by omega), List.getElem?_set_ne (by omega), List.getElem?_set_ne (by omega), List.getElem?_set_ne (by omega)]

theorem sets8_facts (L : List Value) (o B0 B1 B2 B3 B4 B5 B6 B7 : Nat) (bs : List UInt8) (h : o + 8 ≤ L.length) (hb : bs = [UInt8.ofNat B0, UInt8.ofNat B1, UInt8.ofNat B2, UInt8.ofNat B3, UInt8.ofNat B4, UInt8.ofNat B5]) (l0 : B0 < 256) (l1 : B1 < 256) (l2 : B2 < 256) (l3 : B3 < 256) (l4 : B4 < 256) (l5 : B5 < 256) :
    ((((((((L.set (o) (.int .u8 (B0 : Int))).set (o + 1) (.int .u8 (B1 : Int))).set (o + 2) (.int .u8 (B2 : Int))).set (o + 3) (.int .u8 (B3 : Int))).set (o + 4) (.int .u8 (B4 : Int))).set (o + 5) (.int .u8 (B5 : Int))).set (o + 6) (.int .u8 (B6 : Int))).set (o + 7) (.int .u8 (B7 : Int))).length = L.length ∧ (∀ j x, bs[j]? = some x → ((((((((L.set (o) (.int .u8 (B0 : Int))).set (o + 1) (.int .u8 (B1 : Int))).set (o + 2) (.int .u8 (B2 : Int))).set (o + 3) (.int .u8 (B3 : Int))).set (o + 4) (.int .u8 (B4 : Int))).set (o + 5) (.int .u8 (B5 : Int))).set (o + 6) (.int .u8 (B6 : Int))).set (o + 7) (.int .u8 (B7 : Int)))[o + j]? = some (.int .u8 (x.toNat : Int))) ∧ (∀ i, i < o ∨ o + 8 ≤ i → ((((((((L.set (o) (.int .u8 (B0 : Int))).set (o + 1) (.int .u8 (B1 : Int))).set (o + 2) (.int .u8 (B2 : Int))).set (o + 3) (.int .u8 (B3 : Int))).set (o + 4) (.int .u8 (B4 : Int))).set (o + 5) (.int .u8 (B5 : Int))).set (o + 6) (.int .u8 (B6 : Int))).set (o + 7) (.int .u8 (B7 : Int)))[i]? = L[i]?) := by
  subst hb
  refine ⟨by simp, ?_, ?_⟩
  · intro j x hj
    match j, hj with
    | 0, hj =>
      simp only [List.getElem?_cons_zero, Option.some.injEq] at hj
      rw [← hj, UInt8.toNat_ofNat_of_lt' (by show _ < 256; omega)]
      show (List.set _ _ _)[o]? = _
      rw [List.getElem?_set_ne (by omega)]
      rw [List.getElem?_set_ne (by omega)]
      rw [List.getElem?_set_ne (by omega)]
      rw [List.getElem?_set_ne (by omega)]
      rw [List.getElem?_set_ne (by omega)]
      rw [List.getElem?_set_ne (by omega)]
      rw [List.getElem?_set_ne (by omega)]
      rw [List.getElem?_set_self (by first | omega | (simp only [List.length_set]; omega))]
    | 1, hj =>
      simp only [List.getElem?_cons_succ, List.getElem?_cons_zero, Option.some.injEq] at hj
      rw [← hj, UInt8.toNat_ofNat_of_lt' (by show _ < 256; omega)]
      rw [List.getElem?_set_ne (by omega)]
      rw [List.getElem?_set_ne (by omega)]
      rw [List.getElem?_set_ne (by omega)]
      rw [List.getElem?_set_ne (by omega)]
      rw [List.getElem?_set_ne (by omega)]
      rw [List.getElem?_set_ne (by omega)]
      rw [List.getElem?_set_self (by first | omega | (simp only [List.length_set]; omega))]
    | 2, hj =>
      simp only [List.getElem?_cons_succ, List.getElem?_cons_zero, Option.some.injEq] at hj
      rw [← hj, UInt8.toNat_ofNat_of_lt' (by show _ < 256; omega)]
      rw [List.getElem?_set_ne (by omega)]
      rw [List.getElem?_set_ne (by omega)]
      rw [List.getElem?_set_ne (by omega)]
      rw [List.getElem?_set_ne (by omega)]
      rw [List.getElem?_set_ne (by omega)]
      rw [List.getElem?_set_self (by first | omega | (simp only [List.length_set]; omega))]
    | 3, hj =>
      simp only [List.getElem?_cons_succ, List.getElem?_cons_zero, Option.some.injEq] at hj
      rw [← hj, UInt8.toNat_ofNat_of_lt' (by show _ < 256; omega)]
      rw [List.getElem?_set_ne (by omega)]
      rw [List.getElem?_set_ne (by omega)]
      rw [List.getElem?_set_ne (by omega)]
      rw [List.getElem?_set_ne (by omega)]
      rw [List.getElem?_set_self (by first | omega | (simp only [List.length_set]; omega))]
    | 4, hj =>
      simp only [List.getElem?_cons_succ, List.getElem?_cons_zero, Option.some.injEq] at hj
      rw [← hj, UInt8.toNat_ofNat_of_lt' (by show _ < 256; omega)]
      rw [List.getElem?_set_ne (by omega)]
      rw [List.getElem?_set_ne (by omega)]
      rw [List.getElem?_set_ne (by omega)]
      rw [List.getElem?_set_self (by first | omega | (simp only [List.length_set]; omega))]
    | 5, hj =>
      simp only [List.getElem?_cons_succ, List.getElem?_cons_zero, Option.some.injEq] at hj
      rw [← hj, UInt8.toNat_ofNat_of_lt' (by show _ < 256; omega)]
      rw [List.getElem?_set_ne (by omega)]
      rw [List.getElem?_set_ne (by omega)]
      rw [List.getElem?_set_self (by first | omega | (simp only [List.length_set]; omega))]
    | j + 6, hj => simp at hj
  · intro i hi
    rw [List.getElem?_set_ne (by omega), List.getElem?_set_ne (by omega), List.getElem?_set_ne (by omega), List.getElem?_set_ne (by omega), List.getElem?_set_ne (by omega), List.getElem?_set_ne (by omega), List.getElem?_set_ne (by omega), List.getElem?_set_ne (by omega)]

theorem Wrote.put4 {g o : Nat} {t : TypeId} {cur cur1 cur2 : List Value} {w wr w' : World} {ds bs : List UInt8} (h1 : cur1.length = cur.length) (h2 : ∀ j x, ds[j]? = some x → cur1[o + j]? = some (.int .u8 (x.toNat : Int))) (h3 : ∀ i, i < o ∨ o + ds.length + 2 ≤ i → cur1[i]? = cur[i]?) (hg : w.grownBy wr (some g)) (hao : AsOr cur cur1) (hao2 : AsOr cur1 cur2)
    (hbl : bs.length = 3) (b1 : Blk w' g t cur2) (b2 : cur2.length = cur1.length) (b3 : ∀ j x, bs[j]? = some x → cur2[o + ds.length + j]? = some (.int .u8 (x.toNat : Int))) (b4 : ∀ i, i < o + ds.length ∨ o + ds.length + 4 ≤ i → cur2[i]? = cur1[i]?) (b5 : wr.grownBy w' (some g)) : Wrote g o t cur w (ds ++ bs) w' := by
  refine ⟨cur2, b1, b2.trans h1, ?_, ?_, grown_trans hg b5, hao.trans hao2⟩
  · intro j x hj
    rcases Nat.lt_or_ge j ds.length with hlt | hge
    · rw [List.getElem?_append_left hlt] at hj
      rw [b4 (o + j) (Or.inl (by omega))]
      exact h2 j x hj
    · rw [List.getElem?_append_right hge] at hj
      have := b3 _ x hj
      rw [show o + ds.length + (j - ds.length) = o + j by omega] at this
      exact this
  · intro i hi
    rw [List.length_append, hbl] at hi
    rw [b4 i (by omega)]
    exact h3 i (by omega)

theorem Wrote.put8 {g o : Nat} {t : TypeId} {cur cur1 cur2 : List Value} {w wr w' : World} {ds bs : List UInt8} (h1 : cur1.length = cur.length) (h2 : ∀ j x, ds[j]? = some x → cur1[o + j]? = some (.int .u8 (x.toNat : Int))) (h3 : ∀ i, i < o ∨ o + ds.length + 2 ≤ i → cur1[i]? = cur[i]?) (hg : w.grownBy wr (some g)) (hao : AsOr cur cur1) (hao2 : AsOr cur1 cur2)
    (hbl : bs.length = 6) (b1 : Blk w' g t cur2) (b2 : cur2.length = cur1.length) (b3 : ∀ j x, bs[j]? = some x → cur2[o + ds.length + j]? = some (.int .u8 (x.toNat : Int))) (b4 : ∀ i, i < o + ds.length ∨ o + ds.length + 8 ≤ i → cur2[i]? = cur1[i]?) (b5 : wr.grownBy w' (some g)) : Wrote g o t cur w (ds ++ bs) w' := by
  refine ⟨cur2, b1, b2.trans h1, ?_, ?_, grown_trans hg b5, hao.trans hao2⟩
  · intro j x hj
    rcases Nat.lt_or_ge j ds.length with hlt | hge
    · rw [List.getElem?_append_left hlt] at hj
      rw [b4 (o + j) (Or.inl (by omega))]
      exact h2 j x hj
    · rw [List.getElem?_append_right hge] at hj
      have := b3 _ x hj
      rw [show o + ds.length + (j - ds.length) = o + j by omega] at this
      exact this
  · intro i hi
    rw [List.length_append, hbl] at hi
    rw [b4 i (by omega)]
    exact h3 i (by omega)

theorem fast4_b0 (x0 x1 x2 x3 V : Nat) (h0 : x0 < 64) (h1 : x1 < 64) (h2 : x2 < 64) (h3 : x3 < 64) (hV : V = x0 * 67108864 + x1 * 1048576 + x2 * 16384 + x3 * 256) : V / 16777216 = x0 * 4 + x1 / 16 := by omega
theorem fast4_b1 (x0 x1 x2 x3 V : Nat) (h0 : x0 < 64) (h1 : x1 < 64) (h2 : x2 < 64) (h3 : x3 < 64) (hV : V = x0 * 67108864 + x1 * 1048576 + x2 * 16384 + x3 * 256) : V / 65536 % 256 = x1 % 16 * 16 + x2 / 4 := by omega
theorem fast4_b2 (x0 x1 x2 x3 V : Nat) (h0 : x0 < 64) (h1 : x1 < 64) (h2 : x2 < 64) (h3 : x3 < 64) (hV : V = x0 * 67108864 + x1 * 1048576 + x2 * 16384 + x3 * 256) : V / 256 % 256 = x2 % 4 * 64 + x3 := by omega
theorem fast4_b3 (x0 x1 x2 x3 V : Nat) (h0 : x0 < 64) (h1 : x1 < 64) (h2 : x2 < 64) (h3 : x3 < 64) (hV : V = x0 * 67108864 + x1 * 1048576 + x2 * 16384 + x3 * 256) : V % 256 = 0 := by omega
theorem fast4_facts (x0 x1 x2 x3 : Nat) (h0 : x0 < 64) (h1 : x1 < 64) (h2 : x2 < 64) (h3 : x3 < 64) : ∃ V B0 B1 B2 B3 : Nat, V = x0 * 67108864 + x1 * 1048576 + x2 * 16384 + x3 * 256 ∧ bytesOf [x0, x1, x2, x3] = [UInt8.ofNat B0, UInt8.ofNat B1, UInt8.ofNat B2] ∧ V < 4294967296 ∧ B0 = V / 16777216 ∧ B1 = V / 65536 % 256 ∧ B2 = V / 256 % 256 ∧ B3 = V % 256 ∧ B0 < 256 ∧ B1 < 256 ∧ B2 < 256 ∧ B3 < 256 :=
  ⟨x0 * 67108864 + x1 * 1048576 + x2 * 16384 + x3 * 256, x0 * 4 + x1 / 16, x1 % 16 * 16 + x2 / 4, x2 % 4 * 64 + x3, 0, rfl, rfl, by omega, (fast4_b0 x0 x1 x2 x3 _ h0 h1 h2 h3 rfl).symm, (fast4_b1 x0 x1 x2 x3 _ h0 h1 h2 h3 rfl).symm, (fast4_b2 x0 x1 x2 x3 _ h0 h1 h2 h3 rfl).symm, (fast4_b3 x0 x1 x2 x3 _ h0 h1 h2 h3 rfl).symm, (by omega), (by omega), (by omega), (by omega)⟩
theorem fast8_b0 (x0 x1 x2 x3 x4 x5 x6 x7 V : Nat) (h0 : x0 < 64) (h1 : x1 < 64) (h2 : x2 < 64) (h3 : x3 < 64) (h4 : x4 < 64) (h5 : x5 < 64) (h6 : x6 < 64) (h7 : x7 < 64) (hV : V = x0 * 288230376151711744 + x1 * 4503599627370496 + x2 * 70368744177664 + x3 * 1099511627776 + x4 * 17179869184 + x5 * 268435456 + x6 * 4194304 + x7 * 65536) : V / 72057594037927936 = x0 * 4 + x1 / 16 := by omega
theorem fast8_b1 (x0 x1 x2 x3 x4 x5 x6 x7 V : Nat) (h0 : x0 < 64) (h1 : x1 < 64) (h2 : x2 < 64) (h3 : x3 < 64) (h4 : x4 < 64) (h5 : x5 < 64) (h6 : x6 < 64) (h7 : x7 < 64) (hV : V = x0 * 288230376151711744 + x1 * 4503599627370496 + x2 * 70368744177664 + x3 * 1099511627776 + x4 * 17179869184 + x5 * 268435456 + x6 * 4194304 + x7 * 65536) : V / 281474976710656 % 256 = x1 % 16 * 16 + x2 / 4 := by omega
theorem fast8_b2 (x0 x1 x2 x3 x4 x5 x6 x7 V : Nat) (h0 : x0 < 64) (h1 : x1 < 64) (h2 : x2 < 64) (h3 : x3 < 64) (h4 : x4 < 64) (h5 : x5 < 64) (h6 : x6 < 64) (h7 : x7 < 64) (hV : V = x0 * 288230376151711744 + x1 * 4503599627370496 + x2 * 70368744177664 + x3 * 1099511627776 + x4 * 17179869184 + x5 * 268435456 + x6 * 4194304 + x7 * 65536) : V / 1099511627776 % 256 = x2 % 4 * 64 + x3 := by omega
theorem fast8_b3 (x0 x1 x2 x3 x4 x5 x6 x7 V : Nat) (h0 : x0 < 64) (h1 : x1 < 64) (h2 : x2 < 64) (h3 : x3 < 64) (h4 : x4 < 64) (h5 : x5 < 64) (h6 : x6 < 64) (h7 : x7 < 64) (hV : V = x0 * 288230376151711744 + x1 * 4503599627370496 + x2 * 70368744177664 + x3 * 1099511627776 + x4 * 17179869184 + x5 * 268435456 + x6 * 4194304 + x7 * 65536) : V / 4294967296 % 256 = x4 * 4 + x5 / 16 := by omega
theorem fast8_b4 (x0 x1 x2 x3 x4 x5 x6 x7 V : Nat) (h0 : x0 < 64) (h1 : x1 < 64) (h2 : x2 < 64) (h3 : x3 < 64) (h4 : x4 < 64) (h5 : x5 < 64) (h6 : x6 < 64) (h7 : x7 < 64) (hV : V = x0 * 288230376151711744 + x1 * 4503599627370496 + x2 * 70368744177664 + x3 * 1099511627776 + x4 * 17179869184 + x5 * 268435456 + x6 * 4194304 + x7 * 65536) : V / 16777216 % 256 = x5 % 16 * 16 + x6 / 4 := by omega
theorem fast8_b5 (x0 x1 x2 x3 x4 x5 x6 x7 V : Nat) (h0 : x0 < 64) (h1 : x1 < 64) (h2 : x2 < 64) (h3 : x3 < 64) (h4 : x4 < 64) (h5 : x5 < 64) (h6 : x6 < 64) (h7 : x7 < 64) (hV : V = x0 * 288230376151711744 + x1 * 4503599627370496 + x2 * 70368744177664 + x3 * 1099511627776 + x4 * 17179869184 + x5 * 268435456 + x6 * 4194304 + x7 * 65536) : V / 65536 % 256 = x6 % 4 * 64 + x7 := by omega
theorem fast8_b6 (x0 x1 x2 x3 x4 x5 x6 x7 V : Nat) (h0 : x0 < 64) (h1 : x1 < 64) (h2 : x2 < 64) (h3 : x3 < 64) (h4 : x4 < 64) (h5 : x5 < 64) (h6 : x6 < 64) (h7 : x7 < 64) (hV : V = x0 * 288230376151711744 + x1 * 4503599627370496 + x2 * 70368744177664 + x3 * 1099511627776 + x4 * 17179869184 + x5 * 268435456 + x6 * 4194304 + x7 * 65536) : V / 256 % 256 = 0 := by omega
theorem fast8_b7 (x0 x1 x2 x3 x4 x5 x6 x7 V : Nat) (h0 : x0 < 64) (h1 : x1 < 64) (h2 : x2 < 64) (h3 : x3 < 64) (h4 : x4 < 64) (h5 : x5 < 64) (h6 : x6 < 64) (h7 : x7 < 64) (hV : V = x0 * 288230376151711744 + x1 * 4503599627370496 + x2 * 70368744177664 + x3 * 1099511627776 + x4 * 17179869184 + x5 * 268435456 + x6 * 4194304 + x7 * 65536) : V % 256 = 0 := by omega
theorem fast8_facts (x0 x1 x2 x3 x4 x5 x6 x7 : Nat) (h0 : x0 < 64) (h1 : x1 < 64) (h2 : x2 < 64) (h3 : x3 < 64) (h4 : x4 < 64) (h5 : x5 < 64) (h6 : x6 < 64) (h7 : x7 < 64) : ∃ V B0 B1 B2 B3 B4 B5 B6 B7 : Nat, V = x0 * 288230376151711744 + x1 * 4503599627370496 + x2 * 70368744177664 + x3 * 1099511627776 + x4 * 17179869184 + x5 * 268435456 + x6 * 4194304 + x7 * 65536 ∧ bytesOf [x0, x1, x2, x3] ++ bytesOf [x4, x5, x6, x7] = [UInt8.ofNat B0, UInt8.ofNat B1, UInt8.ofNat B2, UInt8.ofNat B3, UInt8.ofNat B4, UInt8.ofNat B5] ∧ V < 18446744073709551616 ∧ B0 = V / 72057594037927936 ∧ B1 = V / 281474976710656 % 256 ∧ B2 = V / 1099511627776 % 256 ∧ B3 = V / 4294967296 % 256 ∧ B4 = V / 16777216 % 256 ∧ B5 = V / 65536 % 256 ∧ B6 = V / 256 % 256 ∧ B7 = V % 256 ∧ B0 < 256 ∧ B1 < 256 ∧ B2 < 256 ∧ B3 < 256 ∧ B4 < 256 ∧ B5 < 256 ∧ B6 < 256 ∧ B7 < 256 :=
  ⟨x0 * 288230376151711744 + x1 * 4503599627370496 + x2 * 70368744177664 + x3 * 1099511627776 + x4 * 17179869184 + x5 * 268435456 + x6 * 4194304 + x7 * 65536, x0 * 4 + x1 / 16, x1 % 16 * 16 + x2 / 4, x2 % 4 * 64 + x3, x4 * 4 + x5 / 16, x5 % 16 * 16 + x6 / 4, x6 % 4 * 64 + x7, 0, 0, rfl, rfl, by omega, (fast8_b0 x0 x1 x2 x3 x4 x5 x6 x7 _ h0 h1 h2 h3 h4 h5 h6 h7 rfl).symm, (fast8_b1 x0 x1 x2 x3 x4 x5 x6 x7 _ h0 h1 h2 h3 h4 h5 h6 h7 rfl).symm, (fast8_b2 x0 x1 x2 x3 x4 x5 x6 x7 _ h0 h1 h2 h3 h4 h5 h6 h7 rfl).symm, (fast8_b3 x0 x1 x2 x3 x4 x5 x6 x7 _ h0 h1 h2 h3 h4 h5 h6 h7 rfl).symm, (fast8_b4 x0 x1 x2 x3 x4 x5 x6 x7 _ h0 h1 h2 h3 h4 h5 h6 h7 rfl).symm, (fast8_b5 x0 x1 x2 x3 x4 x5 x6 x7 _ h0 h1 h2 h3 h4 h5 h6 h7 rfl).symm, (fast8_b6 x0 x1 x2 x3 x4 x5 x6 x7 _ h0 h1 h2 h3 h4 h5 h6 h7 rfl).symm, (fast8_b7 x0 x1 x2 x3 x4 x5 x6 x7 _ h0 h1 h2 h3 h4 h5 h6 h7 rfl).symm, (by omega), (by omega), (by omega), (by omega), (by omega), (by omega), (by omega), (by omega)⟩

end Go.Proofs.Ytkiipbpcaakkoaa
