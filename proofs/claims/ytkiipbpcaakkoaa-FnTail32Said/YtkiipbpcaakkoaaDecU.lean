/-
  Plain facts on what base64's decoder computes: how long its bytes are, the texts of bytes, a foreign byte among letters. No program in sight. Conditions: the alphabet and the padding are valid.
-/
import Derived.Test.YtkiipbpcaakkoaaDecT
namespace Go.Proofs.Ytkiipbpcaakkoaa
set_option linter.unusedVariables false

/-- Facts on the letters of a quantum. -/
def GotOk (a : List UInt8) (p : Int) (v : List Nat) (r : List UInt8) (si : Nat) (si' : Nat) (v' : List Nat) (err : Option Int) : Prop :=
  2 ≤ v'.length ∧ v'.length ≤ 4 ∧ v.length ≤ v'.length ∧ si + (v'.length - v.length) ≤ si' ∧ si' ≤ si + r.length ∧ (v'.length < 4 → p ≠ -1 → si + (4 - v.length) ≤ si') ∧ (v'.length < 4 → err = none → si' = si + r.length) ∧ (v'.length = 4 → err = none) ∧
    v'.length - v.length + (r.drop (si' - si)).countP (isL a) ≤ r.countP (isL a)

theorem countP_drop_le (f : UInt8 → Bool) (r : List UInt8) (k : Nat) : (r.drop k).countP f ≤ r.countP f := List.Sublist.countP_le (List.drop_sublist k r)

theorem quantTail_got (a : List UInt8) (p : Int) (v : List Nat) (r : List UInt8) (si si' : Nat) (v' : List Nat) (err : Option Int) (h : quantTail v r si = .got si' v' err) : v' = v ∧ si ≤ si' ∧ si' ≤ si + r.length ∧ (err = none → si' = si + r.length) := by
  have hg := skipNL_ge r si
  have hl := skipNL_le r si
  unfold quantTail at h
  split at h
  · rename_i s2 e
    rw [e] at hg hl
    simp only [Quant.got.injEq] at h
    obtain ⟨rfl, rfl, rfl⟩ := h
    simp only [List.length_nil, Nat.add_zero] at hl
    exact ⟨rfl, hg.1, hg.2, fun _ => hl⟩
  · rename_i s2 e
    rw [e] at hg
    simp only [Quant.got.injEq] at h
    obtain ⟨rfl, rfl, rfl⟩ := h
    exact ⟨rfl, hg.1, hg.2, fun h => by cases h⟩

theorem quantPad_got (a : List UInt8) (p : Int) (n : Nat) (v : List Nat) (r : List UInt8) (si si' : Nat) (v' : List Nat) (err : Option Int) (h : quantPad p n v r si = .got si' v' err) : v' = v ∧ si + (if v.length = 2 then 1 else 0) ≤ si' ∧ si' ≤ si + r.length ∧ (err = none → si' = si + r.length) := by
  have hg := skipNL_ge r si
  have hl := skipNL_le r si
  unfold quantPad at h
  split at h
  · rename_i hv
    rw [if_pos hv]
    split at h
    · cases h
    · rename_i d r' s2 e
      rw [e] at hg hl
      split at h
      · obtain ⟨h1, h2, h3, h4⟩ := quantTail_got a p v r' (s2 + 1) si' v' err h
        simp only [List.length_cons] at hl
        simp only at hg hl
        exact ⟨h1, by omega, by omega, fun e => by have := h4 e; omega⟩
      · cases h
  · rename_i hv
    rw [if_neg hv]
    exact quantTail_got a p v r si si' v' err h

theorem quant_got (a : List UInt8) (p : Int) (n : Nat) : ∀ (r : List UInt8) (v : List Nat) (si si' : Nat) (v' : List Nat) (err : Option Int), v.length ≤ 3 → quant a p n v r si = .got si' v' err → GotOk a p v r si si' v' err
  | [], v, si, si', v', err, hv, h => by
    unfold quant at h
    split at h
    · cases h
    · split at h
      · cases h
      · rename_i h0 h1
        simp only [Quant.got.injEq] at h
        obtain ⟨rfl, rfl, rfl⟩ := h
        refine ⟨?_, by omega, Nat.le_refl _, by omega, by simp, fun _ hp => absurd (Or.inr hp) h1, fun _ _ => rfl, fun _ => rfl, by simp⟩
        have : ¬ v.length = 1 := fun e => h1 (Or.inl e)
        omega
  | c :: r, v, si, si', v', err, hv, h => by
    unfold quant at h
    split at h
    · rename_i hc
      split at h
      · rename_i h3
        simp only [Quant.got.injEq] at h
        obtain ⟨rfl, rfl, rfl⟩ := h
        have hl : (v ++ [numL a c]).length = 4 := by simp; omega
        refine ⟨by omega, by omega, by omega, by omega, by simp, fun h _ => by omega, fun h _ => by omega, fun _ => rfl, ?_⟩
        rw [hl, h3, List.countP_cons_of_pos hc, show si + 1 - si = 1 by omega, List.drop_succ_cons, List.drop_zero]
        omega
      · rename_i h3
        have hl : (v ++ [numL a c]).length = v.length + 1 := by simp
        obtain ⟨g1, g2, g3, g4, g5, g6, g7, g8, g9⟩ := quant_got a p n r (v ++ [numL a c]) (si + 1) si' v' err (by omega) h
        rw [hl] at g3 g4 g6 g9
        refine ⟨g1, g2, by omega, by omega, by simp only [List.length_cons]; omega, fun h hp => by have := g6 h hp; omega, fun h he => by have := g7 h he; simp only [List.length_cons]; omega, g8, ?_⟩
        rw [List.countP_cons_of_pos hc, show si' - si = (si' - (si + 1)) + 1 by omega, List.drop_succ_cons]
        omega
    · rename_i hc
      split at h
      · obtain ⟨g1, g2, g3, g4, g5, g6, g7, g8, g9⟩ := quant_got a p n r v (si + 1) si' v' err hv h
        refine ⟨g1, g2, g3, by omega, by simp only [List.length_cons]; omega, fun h hp => by have := g6 h hp; omega, fun h he => by have := g7 h he; simp only [List.length_cons]; omega, g8, ?_⟩
        rw [List.countP_cons_of_neg hc, show si' - si = (si' - (si + 1)) + 1 by omega, List.drop_succ_cons]
        omega
      · split at h
        · cases h
        · split at h
          · cases h
          · rename_i h2
            obtain ⟨rfl, g2, g3, g4⟩ := quantPad_got a p n v r (si + 1) si' v' err h
            have : (if v'.length = 2 then 1 else 0) + v'.length = 3 := by split <;> omega
            refine ⟨by omega, by omega, Nat.le_refl _, by omega, by simp only [List.length_cons]; omega, fun _ _ => by omega, fun _ he => by have := g4 he; simp only [List.length_cons]; omega, fun h => by omega, ?_⟩
            rw [Nat.sub_self, Nat.zero_add]
            exact countP_drop_le _ _ _

theorem bytesOf_length (v : List Nat) (h1 : 2 ≤ v.length) (h2 : v.length ≤ 4) : (bytesOf v).length = v.length - 1 := by
  match v, h1, h2 with
  | [_, _], _, _ => rfl
  | [_, _, _], _, _ => rfl
  | [_, _, _, _], _, _ => rfl

/-- The most bytes that so many characters can have. -/
def roomN (p : Int) (n : Nat) : Nat := if p = -1 then n / 4 * 3 + n % 4 * 6 / 8 else n / 4 * 3
def roomC (n : Nat) : Nat := n / 4 * 3 + n % 4 * 6 / 8

theorem roomN_le (p : Int) (n : Nat) : roomN p n ≤ roomC n := by unfold roomN roomC; split <;> omega
theorem roomC_mono (m n : Nat) (h : m ≤ n) : roomC m ≤ roomC n := by unfold roomC; omega
theorem room_four (p : Int) (n m b : Nat) (h : m + 4 ≤ n) (hb : b ≤ roomN p m) : 3 + b ≤ roomN p n := by
  unfold roomN at *
  by_cases hp : p = -1
  · rw [if_pos hp] at *; omega
  · rw [if_neg hp] at *; omega
theorem roomC_four (n m b : Nat) (h : m + 4 ≤ n) (hb : b ≤ roomC m) : 3 + b ≤ roomC n := by unfold roomC at *; omega
theorem room_less (p : Int) (n k : Nat) (h1 : 2 ≤ k) (h4 : k < 4) (hk : k ≤ n) (hp : p ≠ -1 → 4 ≤ n) : k - 1 ≤ roomN p n := by
  unfold roomN
  split
  · omega
  · have := hp (by assumption); omega
theorem roomC_less (n k : Nat) (h1 : 2 ≤ k) (h4 : k < 4) (hk : k ≤ n) : k - 1 ≤ roomC n := by unfold roomC; omega

theorem dec_room (a : List UInt8) (p : Int) (st : Bool) (src : List UInt8) : ∀ (m si : Nat), src.length - si ≤ m → (decFrom a p st src si).1.length ≤ roomN p (src.length - si) ∧ (decFrom a p st src si).1.length ≤ roomC ((src.drop si).countP (isL a)) := by
  intro m
  induction m with
  | zero => intro si h; rw [decFrom_end a p st src si (by omega)]; simp
  | succ m ih =>
    intro si h
    rcases Nat.lt_or_ge si src.length with hlt | hge
    · have hq : quantAt a p st src si = quantRes st (quant a p src.length [] (src.drop si) si) := rfl
      have hqs := quantAt_si a p st src si hlt
      cases hr : quant a p src.length [] (src.drop si) si with
      | none s2 =>
        rw [hr] at hq
        have hrange := quant_si a p src.length (src.drop si) [] si
        rw [hq] at hqs
        simp only [quantRes] at hqs
        rw [decFrom_step a p st src si hlt (by rw [hq]; rfl), hq]
        simp only [quantRes, List.nil_append]
        obtain ⟨i1, i2⟩ := ih s2 (by omega)
        have e : src.drop s2 = (src.drop si).drop (s2 - si) := by rw [List.drop_drop]; congr 1; omega
        refine ⟨Nat.le_trans i1 ?_, Nat.le_trans i2 (roomC_mono _ _ (by rw [e]; exact countP_drop_le _ _ _))⟩
        unfold roomN
        split <;> omega
      | bad s2 e =>
        rw [hr] at hq
        rw [decFrom_bad a p st src si hlt e (by rw [hq]; rfl), hq]
        simp [quantRes]
      | got s2 v err =>
        rw [hr] at hq
        obtain ⟨g1, g2, g3, g4, g5, g6, g7, g8, g9⟩ := quant_got a p src.length (src.drop si) [] si s2 v err (by simp) hr
        simp only [List.length_nil, Nat.sub_zero, List.length_drop] at g3 g4 g5 g6 g7 g9
        have e : src.drop s2 = (src.drop si).drop (s2 - si) := by rw [List.drop_drop]; congr 1; omega
        by_cases hst : st = true ∧ unusedOf v ≠ 0
        · simp only [quantRes, if_pos hst] at hq
          rw [decFrom_bad a p st src si hlt _ (by rw [hq]), hq]
          simp
        · simp only [quantRes, if_neg hst] at hq
          have hbl := bytesOf_length v g1 g2
          have hcnt : v.length ≤ (src.drop si).countP (isL a) := Nat.le_trans (Nat.le_add_right _ _) g9
          rcases Nat.lt_or_ge v.length 4 with h4 | h4
          · have hlast : (decFrom a p st src si).1.length = v.length - 1 := by
              cases err with
              | some er => rw [decFrom_bad a p st src si hlt er (by rw [hq]), hq, hbl]
              | none =>
                rw [decFrom_step a p st src si hlt (by rw [hq]), hq]
                have := g7 h4 rfl
                rw [decFrom_end a p st src s2 (by omega)]
                simp [hbl]
            rw [hlast]
            exact ⟨room_less p _ _ g1 h4 (by omega) (fun hp => by have := g6 h4 hp; omega), roomC_less _ _ g1 h4 hcnt⟩
          · obtain rfl := g8 (by omega)
            rw [decFrom_step a p st src si hlt (by rw [hq]), hq]
            simp only [List.length_append, hbl, show v.length - 1 = 3 by omega]
            rw [hq] at hqs
            simp only at hqs
            obtain ⟨i1, i2⟩ := ih s2 (by omega)
            refine ⟨room_four p _ _ _ (by omega) i1, roomC_four _ _ _ ?_ i2⟩
            rw [e]
            omega
    · rw [decFrom_end a p st src si hge]; simp

/-! ### Texts of bytes -/
theorem isL_letter6 {a : List UInt8} {p : Int} (hv : validP 6 a p) (v : Nat) (h : v < 64) : isL a (letter a v) = true ∧ numL a (letter a v) = v := by
  have := idx_letter6 hv v h
  unfold isL numL
  rw [this]
  simp
theorem isL_letter5 {a : List UInt8} {p : Int} (hv : validP 5 a p) (v : Nat) (h : v < 32) : isL a (letter a v) = true ∧ numL a (letter a v) = v := by
  have := idx_letter5 hv v h
  unfold isL numL
  rw [this]
  simp
theorem numL_back {bits : Nat} {a : List UInt8} {p : Int} (hv : validP bits a p) (c : UInt8) (h : isL a c = true) : letter a (numL a c) = c ∧ numL a c < 2 ^ bits := by
  unfold isL at h
  have hi := of_decide_eq_true h
  have hr := idx_range a (c.toNat : Int)
  obtain ⟨k, hk⟩ := Int.eq_ofNat_of_zero_le hi
  have hlt : k < a.length := by omega
  have hu := idx_uniq a k hlt _ hk
  have e : numL a c = k := by unfold numL; rw [hk]; rfl
  rw [e, letter_at a k hlt]
  exact ⟨UInt8.toNat_inj.1 (by omega), by rw [← hv.1]; exact hlt⟩

theorem unS_sixes : ∀ l : List UInt8, unS (sixes l) = 0
  | a :: b :: c :: t => by rw [sixes, unS, unS_sixes t]
  | [a, b] => by simp only [sixes, unS]; omega
  | [a] => by simp only [sixes, unS]; omega
  | [] => rfl
theorem sixes_unsix : ∀ ns : List Nat, (∀ v ∈ ns, v < 64) → ns.length % 4 ≠ 1 → unS ns = 0 → sixes (unsix ns) = ns
  | a :: b :: c :: d :: t, h, hl, hu => by
    have ha := h a (by simp); have hb := h b (by simp); have hc := h c (by simp); have hd := h d (by simp)
    have ih := sixes_unsix t (fun v hv => h v (by simp [hv])) (by simp only [List.length_cons] at hl; omega) hu
    rw [unsix, sixes, ih, UInt8.toNat_ofNat_of_lt' (by show _ < 256; omega), UInt8.toNat_ofNat_of_lt' (by show _ < 256; omega), UInt8.toNat_ofNat_of_lt' (by show _ < 256; omega)]
    refine List.cons_eq_cons.2 ⟨by omega, List.cons_eq_cons.2 ⟨by omega, List.cons_eq_cons.2 ⟨by omega, List.cons_eq_cons.2 ⟨by omega, rfl⟩⟩⟩⟩
  | [a, b, c], h, _, hu => by
    have ha := h a (by simp); have hb := h b (by simp); have hc := h c (by simp)
    simp only [unS] at hu
    rw [unsix, sixes, UInt8.toNat_ofNat_of_lt' (by show _ < 256; omega), UInt8.toNat_ofNat_of_lt' (by show _ < 256; omega)]
    refine List.cons_eq_cons.2 ⟨by omega, List.cons_eq_cons.2 ⟨by omega, List.cons_eq_cons.2 ⟨by omega, rfl⟩⟩⟩
  | [a, b], h, _, hu => by
    have ha := h a (by simp); have hb := h b (by simp)
    simp only [unS] at hu
    rw [unsix, sixes, UInt8.toNat_ofNat_of_lt' (by show _ < 256; omega)]
    refine List.cons_eq_cons.2 ⟨by omega, List.cons_eq_cons.2 ⟨by omega, rfl⟩⟩
  | [a], _, hl, _ => by simp at hl
  | [], _, _, _ => rfl
theorem unsix_length : ∀ ns : List Nat, (unsix ns).length = ns.length * 6 / 8
  | a :: b :: c :: d :: t => by
    have := unsix_length t
    simp only [unsix, List.length_cons, this]
    omega
  | [a, b, c] => by simp [unsix]
  | [a, b] => by simp [unsix]
  | [a] => by simp [unsix]
  | [] => by simp [unsix]

theorem text6_strip {a : List UInt8} {p : Int} (hv : validP 6 a p) (l : List UInt8) : strip (textOf 6 a p l) = textOf 6 a p l := by
  unfold strip
  rw [List.filter_eq_self]
  intro c hc
  obtain ⟨j, hj, rfl⟩ := List.getElem_of_mem hc
  rw [Bool.not_eq_true']
  rcases Nat.lt_or_ge j (charsN 6 l.length) with h | h
  · obtain ⟨v, _, hlt, e, _⟩ := text6_letter hv l j h _ (List.getElem?_eq_getElem hj)
    have := (isL_letter6 hv v hlt).1
    rw [← e] at this
    cases hn : isNL (textOf 6 a p l)[j] with
    | false => rfl
    | true => rw [nl_not hv _ hn] at this; cases this
  · rw [textOf_length6] at hj
    obtain ⟨h1, h2⟩ := text6_pad a p l j h hj
    rw [List.getElem?_eq_getElem (by rw [textOf_length6]; exact hj)] at h1
    simp only [Option.some.injEq] at h1
    rw [h1]
    have := padB_toNat p h2 hv.2.2.1
    have h3 := hv.2.2.2.1
    have h4 := hv.2.2.2.2.1
    unfold isNL
    simp
    omega
theorem text6_fine {a : List UInt8} {p : Int} (hv : validP 6 a p) (l : List UInt8) : fineB 6 a p (textOf 6 a p l) = true := by
  have hL := lettersIn_text6 hv l
  have e : charsN 6 l.length * 6 / 8 = l.length := by unfold charsN; omega
  refine fineB_true ?_ (by rw [hL, e]) (by rw [hL, e, textOf_length6])
  intro c hc
  rw [hL] at hc
  obtain ⟨j, hj, rfl⟩ := List.getElem_of_mem hc
  rw [List.getElem_drop]
  rw [List.length_drop, textOf_length6] at hj
  obtain ⟨h1, h2⟩ := text6_pad a p l (charsN 6 l.length + j) (by omega) (by omega)
  rw [List.getElem?_eq_getElem (by rw [textOf_length6]; omega)] at h1
  simp only [Option.some.injEq] at h1
  rw [h1]
  exact ⟨h2, padB_toNat p h2 hv.2.2.1⟩

/-- The text of some bytes is decoded to them, also with new lines in it. -/
theorem dec_text6 {a : List UInt8} {p : Int} (hv : validP 6 a p) (st : Bool) (l s : List UInt8) (hs : strip s = textOf 6 a p l) : decOf a p st s = (l, none) := by
  obtain ⟨h1, h2⟩ := decOf_spec st hv s
  rw [hs, text6_fine hv, numsOf_text6 hv, unS_sixes] at h1
  rw [hs, numsOf_text6 hv, unsix_sixes] at h2
  have h3 := h1.2 (by simp)
  exact Prod.ext (h2 h3) h3

theorem isL_of_lt (a : List UInt8) : ∀ (t : List UInt8) (i : Nat) (c : UInt8), i < lettersIn a t → t[i]? = some c → isL a c = true
  | [], i, c, h, _ => by rw [lettersIn_nil] at h; omega
  | d :: t, i, c, h, e => by
    cases hd : isL a d with
    | false => rw [lettersIn_neg hd] at h; omega
    | true =>
      cases i with
      | zero =>
        simp only [List.getElem?_cons_zero, Option.some.injEq] at e
        rw [← e]; exact hd
      | succ i =>
        rw [lettersIn_pos hd] at h
        exact isL_of_lt a t i c (by omega) (by simpa using e)

/-- A well formed text whose unused bits are zero is the text of its bytes. -/
theorem canon6 {a : List UInt8} {p : Int} (hv : validP 6 a p) (t : List UInt8) (hf : fineB 6 a p t = true) (hz : unS (numsOf a t) = 0) : textOf 6 a p (unsix (numsOf a t)) = t := by
  obtain ⟨f1, f2, f3⟩ := fineB_parts hf
  have hnl := numsOf_length a t
  have hle := lettersIn_le a t
  have hlt : ∀ i, (h : i < lettersIn a t) → isL a (t[i]'(by omega)) = true := by
    intro i h
    exact isL_of_lt a t i _ h (List.getElem?_eq_getElem _)
  have hsm : ∀ v ∈ numsOf a t, v < 64 := by
    intro v hm
    obtain ⟨j, hj, rfl⟩ := List.getElem_of_mem hm
    rw [hnl] at hj
    have := (numL_back hv _ (hlt j hj)).2
    simp only [numsOf, List.getElem_map, List.getElem_take]
    exact this
  have hw : (numsOf a t).length % 4 ≠ 1 := by rw [hnl]; unfold charsN at f2; omega
  have hs := sixes_unsix (numsOf a t) hsm hw hz
  have hul := unsix_length (numsOf a t)
  rw [hnl] at hul
  have hletters : lettersOf 6 a (unsix (numsOf a t)) = t.take (lettersIn a t) := by
    unfold lettersOf
    rw [show codes 6 (unsix (numsOf a t)) = sixes (unsix (numsOf a t)) from rfl, hs]
    apply List.ext_getElem
    · simp [hnl]; omega
    · intro i h1 h2
      simp only [List.length_map, hnl] at h1
      simp only [List.getElem_map, numsOf, List.getElem_take]
      exact (numL_back hv _ (hlt i h1)).1
  have hpads : t.drop (lettersIn a t) = List.replicate (padN 6 p (lettersIn a t * 6 / 8)) (padB p) := by
    rw [List.eq_replicate_iff]
    refine ⟨?_, fun c hc => ?_⟩
    · rw [List.length_drop, f3]
      unfold lenN
      omega
    · obtain ⟨h1, h2⟩ := f1 c hc
      apply UInt8.toNat_inj.1
      have := padB_toNat p h1 hv.2.2.1
      omega
  unfold textOf
  rw [hletters, hul, ← hpads, List.take_append_drop]

/-! ### A foreign byte among letters -/
theorem quant_foreign (a : List UInt8) (p : Int) (n : Nat) (b : UInt8) (hb : isL a b = false) (hn : isNL b = false) (hp : (b.toNat : Int) ≠ p) : ∀ (x : List UInt8) (v : List Nat) (r : List UInt8) (si : Nat), (∀ c ∈ x, isL a c = true) → v.length + x.length ≤ 3 → quant a p n v (x ++ b :: r) si = .bad (si + x.length + 1) ((si + x.length : Nat) : Int)
  | [], v, r, si, _, _ => by
    rw [List.nil_append, quant, if_neg (by rw [hb]; simp), if_neg (by rw [hn]; simp), if_pos hp]
    rfl
  | c :: x, v, r, si, h, hl => by
    rw [List.cons_append, quant, if_pos (h c (by simp)), if_neg (by simp only [List.length_cons] at hl; omega), quant_foreign a p n b hb hn hp x (v ++ [numL a c]) r (si + 1) (fun d hd => h d (by simp [hd])) (by simp only [List.length_cons] at hl; simp; omega)]
    simp only [List.length_cons]
    rw [show si + 1 + x.length = si + (x.length + 1) by omega]

theorem dec_foreign (a : List UInt8) (p : Int) (st : Bool) (src : List UInt8) (b : UInt8) (k : Nat) (hk : src[k]? = some b) (hb : isL a b = false) (hn : isNL b = false) (hp : (b.toNat : Int) ≠ p) (hl : ∀ j c, j < k → src[j]? = some c → isL a c = true) :
    ∀ (m q : Nat), k / 4 - q ≤ m → 4 * q ≤ k → decFrom a p st src (4 * q) = (unsix (((src.drop (4 * q)).take (4 * (k / 4 - q))).map (numL a)), some (k : Int)) := by
  have hks : k < src.length := (List.getElem?_eq_some_iff.1 hk).1
  intro m
  induction m with
  | zero =>
    intro q h1 h2
    have hx : src.drop (4 * q) = (src.drop (4 * q)).take (k - 4 * q) ++ b :: src.drop (k + 1) := by
      conv => lhs; rw [← List.take_append_drop (k - 4 * q) (src.drop (4 * q))]
      rw [List.drop_drop, show 4 * q + (k - 4 * q) = k by omega, drop_cons _ _ _ hk]
    have hlen : ((src.drop (4 * q)).take (k - 4 * q)).length = k - 4 * q := by simp; omega
    have hq : quantAt a p st src (4 * q) = (k + 1, [], some (k : Int)) := by
      unfold quantAt
      rw [hx, quant_foreign a p _ b hb hn hp _ [] _ _ (fun c hc => ?_) (by rw [hlen]; simp; omega), hlen]
      · simp only [quantRes]
        rw [show 4 * q + (k - 4 * q) = k by omega]
      · obtain ⟨j, hj, rfl⟩ := List.getElem_of_mem hc
        rw [hlen] at hj
        refine hl (4 * q + j) _ (by omega) ?_
        rw [List.getElem_take, List.getElem_drop]
        exact List.getElem?_eq_getElem _
    rw [decFrom_bad a p st src (4 * q) (by omega) (k : Int) (by rw [hq]), hq, show k / 4 - q = 0 by omega]
    simp [unsix]
  | succ m ih =>
    intro q h1 h2
    rcases Nat.lt_or_ge k (4 * q + 4) with h | h
    · have := ih q (by omega) h2
      exact this
    · have g : ∀ j, j < 4 → ∃ c, src[4 * q + j]? = some c ∧ isL a c = true := fun j hj => ⟨_, List.getElem?_eq_getElem (by omega), hl _ _ (by omega) (List.getElem?_eq_getElem (by omega))⟩
      obtain ⟨c0, e0, l0⟩ := g 0 (by omega)
      obtain ⟨c1, e1, l1⟩ := g 1 (by omega)
      obtain ⟨c2, e2, l2⟩ := g 2 (by omega)
      obtain ⟨c3, e3, l3⟩ := g 3 (by omega)
      rw [Nat.add_zero] at e0
      rw [decFrom_four a p st src (4 * q) c0 c1 c2 c3 e0 e1 e2 e3 l0 l1 l2 l3, show 4 * q + 4 = 4 * (q + 1) by omega, ih (q + 1) (by omega) (by omega)]
      rw [show k / 4 - q = (k / 4 - (q + 1)) + 1 by omega, show 4 * (k / 4 - (q + 1) + 1) = 4 * (k / 4 - (q + 1)) + 1 + 1 + 1 + 1 by omega]
      rw [drop_cons _ _ _ e0, drop_cons _ _ _ e1, drop_cons _ _ _ e2, drop_cons _ _ _ e3, show 4 * q + 3 + 1 = 4 * (q + 1) by omega]
      simp only [List.take_succ_cons, List.map_cons, unsix, bytesOf]
      rfl

theorem unsix_take : ∀ (k : Nat) (ns : List Nat), 4 * k ≤ ns.length → unsix (ns.take (4 * k)) = (unsix ns).take (3 * k)
  | 0, ns, _ => by simp [unsix]
  | k + 1, a :: b :: c :: d :: t, h => by
    rw [show 4 * (k + 1) = 4 * k + 1 + 1 + 1 + 1 by omega, show 3 * (k + 1) = 3 * k + 1 + 1 + 1 by omega]
    simp only [List.take_succ_cons, unsix]
    rw [unsix_take k t (by simp only [List.length_cons] at h; omega)]
  | k + 1, [_, _, _], h => by simp at h; omega
  | k + 1, [_, _], h => by simp at h; omega
  | k + 1, [_], h => by simp at h; omega
  | k + 1, [], h => by simp at h

end Go.Proofs.Ytkiipbpcaakkoaa
