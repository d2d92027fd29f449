/-
  What the reference's function Values computes, in plain words: bits gathered letter by letter; the whole bytes are those of the groups. No program in sight. Conditions: numbers of six or five bits.
-/
import Derived.Test.YtkiipbpcaakkoaaDecU
import Derived.Test.YtkiipbpcaakkoaaBits5
namespace Go.Proofs.Ytkiipbpcaakkoaa
set_option linter.unusedVariables false
open Go.RowKit

/-- One letter more: the bytes, the bits that are held, how many they are. -/
def vstep (bits : Nat) (s : List UInt8 × Nat × Nat) (v : Nat) : List UInt8 × Nat × Nat :=
  if 8 ≤ s.2.2 + bits then (s.1 ++ [UInt8.ofNat ((s.2.1 * 2 ^ bits + v) / 2 ^ (s.2.2 + bits - 8))], (s.2.1 * 2 ^ bits + v) % 2 ^ (s.2.2 + bits - 8), s.2.2 + bits - 8)
  else (s.1, s.2.1 * 2 ^ bits + v, s.2.2 + bits)

def vals (bits : Nat) (ns : List Nat) : List UInt8 × Nat × Nat := ns.foldl (vstep bits) ([], 0, 0)

theorem vals_snoc (bits : Nat) (ns : List Nat) (v : Nat) : vals bits (ns ++ [v]) = vstep bits (vals bits ns) v := by simp [vals]

theorem vstep_ok (bits : Nat) (hb : bits = 6 ∨ bits = 5) (s : List UInt8 × Nat × Nat) (v : Nat) (hv : v < 2 ^ bits) (h1 : s.2.2 < 8) (h2 : s.2.1 < 2 ^ s.2.2) : (vstep bits s v).2.2 < 8 ∧ (vstep bits s v).2.1 < 2 ^ (vstep bits s v).2.2 := by
  unfold vstep
  split
  · exact ⟨by simp only; omega, Nat.mod_lt _ (Nat.two_pow_pos _)⟩
  · refine ⟨by simp only; omega, ?_⟩
    simp only
    rw [Nat.pow_add]
    have h3 : s.2.1 + 1 ≤ 2 ^ s.2.2 := h2
    have h4 := Nat.mul_le_mul_right (2 ^ bits) h3
    rw [Nat.add_mul] at h4
    omega
theorem vals_ok (bits : Nat) (hb : bits = 6 ∨ bits = 5) : ∀ (ns : List Nat) (s : List UInt8 × Nat × Nat), (∀ v ∈ ns, v < 2 ^ bits) → s.2.2 < 8 → s.2.1 < 2 ^ s.2.2 → (ns.foldl (vstep bits) s).2.2 < 8 ∧ (ns.foldl (vstep bits) s).2.1 < 2 ^ (ns.foldl (vstep bits) s).2.2
  | [], s, _, h1, h2 => ⟨h1, h2⟩
  | v :: ns, s, h, h1, h2 => by
    obtain ⟨g1, g2⟩ := vstep_ok bits hb s v (h v (by simp)) h1 h2
    exact vals_ok bits hb ns (vstep bits s v) (fun u hu => h u (by simp [hu])) g1 g2

theorem v6_0 (o : List UInt8) (h v : Nat) : vstep 6 (o, h, 0) v = (o, h * 2 ^ 6 + v, 6) := by unfold vstep; rw [if_neg (by simp)]
theorem v6_6 (o : List UInt8) (h v : Nat) : vstep 6 (o, h, 6) v = (o ++ [UInt8.ofNat ((h * 2 ^ 6 + v) / 2 ^ 4)], (h * 2 ^ 6 + v) % 2 ^ 4, 4) := by unfold vstep; rw [if_pos (by simp)]; rfl
theorem v6_4 (o : List UInt8) (h v : Nat) : vstep 6 (o, h, 4) v = (o ++ [UInt8.ofNat ((h * 2 ^ 6 + v) / 2 ^ 2)], (h * 2 ^ 6 + v) % 2 ^ 2, 2) := by unfold vstep; rw [if_pos (by simp)]; rfl
theorem v6_2 (o : List UInt8) (h v : Nat) : vstep 6 (o, h, 2) v = (o ++ [UInt8.ofNat ((h * 2 ^ 6 + v) / 2 ^ 0)], (h * 2 ^ 6 + v) % 2 ^ 0, 0) := by unfold vstep; rw [if_pos (by simp)]; rfl

theorem st6_1 (o : List UInt8) (a : Nat) (ha : a < 64) : vstep 6 (o, 0, 0) a = (o, a, 6) := by
  rw [v6_0]
  simp
theorem st6_2 (o : List UInt8) (a b : Nat) (ha : a < 64) (hb : b < 64) : vstep 6 (vstep 6 (o, 0, 0) a) b = (o ++ [UInt8.ofNat (a * 4 + b / 16)], b % 16, 4) := by
  have e1 : ((a) * 2 ^ 6 + b) / 2 ^ 4 = a * 4 + b / 16 := by omega
  have e2 : ((a) * 2 ^ 6 + b) % 2 ^ 4 = b % 16 := by omega
  rw [st6_1 o a ha, v6_6, e1, e2]
theorem st6_3 (o : List UInt8) (a b c : Nat) (ha : a < 64) (hb : b < 64) (hc : c < 64) : vstep 6 (vstep 6 (vstep 6 (o, 0, 0) a) b) c = (o ++ [UInt8.ofNat (a * 4 + b / 16), UInt8.ofNat (b % 16 * 16 + c / 4)], c % 4, 2) := by
  have e1 : ((b % 16) * 2 ^ 6 + c) / 2 ^ 2 = b % 16 * 16 + c / 4 := by omega
  have e2 : ((b % 16) * 2 ^ 6 + c) % 2 ^ 2 = c % 4 := by omega
  rw [st6_2 o a b ha hb, v6_4, e1, e2]
  simp only [List.append_assoc, List.cons_append, List.nil_append]
theorem st6_4 (o : List UInt8) (a b c d : Nat) (ha : a < 64) (hb : b < 64) (hc : c < 64) (hd : d < 64) : vstep 6 (vstep 6 (vstep 6 (vstep 6 (o, 0, 0) a) b) c) d = (o ++ [UInt8.ofNat (a * 4 + b / 16), UInt8.ofNat (b % 16 * 16 + c / 4), UInt8.ofNat (c % 4 * 64 + d)], 0, 0) := by
  have e1 : ((c % 4) * 2 ^ 6 + d) / 2 ^ 0 = c % 4 * 64 + d := by omega
  have e2 : ((c % 4) * 2 ^ 6 + d) % 2 ^ 0 = 0 := by omega
  rw [st6_3 o a b c ha hb hc, v6_2, e1, e2]
  simp only [List.append_assoc, List.cons_append, List.nil_append]

theorem vals_six : ∀ (ns : List Nat) (o : List UInt8), (∀ v ∈ ns, v < 64) → (ns.foldl (vstep 6) (o, 0, 0)).1 = o ++ unsix ns ∧ (ns.foldl (vstep 6) (o, 0, 0)).2.1 = unS ns
  | a :: b :: c :: d :: t, o, hall => by
    have ha := hall a (by simp); have hb := hall b (by simp); have hc := hall c (by simp); have hd := hall d (by simp)
    obtain ⟨i1, i2⟩ := vals_six t (o ++ [UInt8.ofNat (a * 4 + b / 16), UInt8.ofNat (b % 16 * 16 + c / 4), UInt8.ofNat (c % 4 * 64 + d)]) (fun v hv => hall v (by simp [hv]))
    simp only [List.foldl_cons]
    rw [st6_4 o a b c d ha hb hc hd, i1, i2]
    exact ⟨by rw [unsix, List.append_assoc]; rfl, by rw [unS]⟩
  | [a, b, c], o, hall => by
    have ha := hall a (by simp); have hb := hall b (by simp); have hc := hall c (by simp)
    simp only [List.foldl_cons, List.foldl_nil]
    rw [st6_3 o a b c ha hb hc]
    exact ⟨by first | (simp only [unsix]; done) | (simp only [unsix, List.append_nil]), by simp only [unS]⟩
  | [a, b], o, hall => by
    have ha := hall a (by simp); have hb := hall b (by simp)
    simp only [List.foldl_cons, List.foldl_nil]
    rw [st6_2 o a b ha hb]
    exact ⟨by first | (simp only [unsix]; done) | (simp only [unsix, List.append_nil]), by simp only [unS]⟩
  | [a], o, hall => by
    have ha := hall a (by simp)
    simp only [List.foldl_cons, List.foldl_nil]
    rw [st6_1 o a ha]
    exact ⟨by first | (simp only [unsix]; done) | (simp only [unsix, List.append_nil]), by simp only [unS]⟩
  | [], o, hall => by simp [unsix, unS]

/-- The unused bits behind numbers of five bits. -/
def unF : List Nat → Nat
  | _ :: _ :: _ :: _ :: _ :: _ :: _ :: _ :: t => unF t
  | [_, _, _, _, _, _, g] => g % 8
  | [_, _, _, _, e, f] => e % 2 * 32 + f
  | [_, _, _, _, e] => e % 2
  | [_, _, _, d] => d % 16
  | [_, b, c] => b % 4 * 32 + c
  | [_, b] => b % 4
  | [a] => a
  | [] => 0

theorem v5_0 (o : List UInt8) (h v : Nat) : vstep 5 (o, h, 0) v = (o, h * 2 ^ 5 + v, 5) := by unfold vstep; rw [if_neg (by simp)]
theorem v5_5 (o : List UInt8) (h v : Nat) : vstep 5 (o, h, 5) v = (o ++ [UInt8.ofNat ((h * 2 ^ 5 + v) / 2 ^ 2)], (h * 2 ^ 5 + v) % 2 ^ 2, 2) := by unfold vstep; rw [if_pos (by simp)]; rfl
theorem v5_2 (o : List UInt8) (h v : Nat) : vstep 5 (o, h, 2) v = (o, h * 2 ^ 5 + v, 7) := by unfold vstep; rw [if_neg (by simp)]
theorem v5_7 (o : List UInt8) (h v : Nat) : vstep 5 (o, h, 7) v = (o ++ [UInt8.ofNat ((h * 2 ^ 5 + v) / 2 ^ 4)], (h * 2 ^ 5 + v) % 2 ^ 4, 4) := by unfold vstep; rw [if_pos (by simp)]; rfl
theorem v5_4 (o : List UInt8) (h v : Nat) : vstep 5 (o, h, 4) v = (o ++ [UInt8.ofNat ((h * 2 ^ 5 + v) / 2 ^ 1)], (h * 2 ^ 5 + v) % 2 ^ 1, 1) := by unfold vstep; rw [if_pos (by simp)]; rfl
theorem v5_1 (o : List UInt8) (h v : Nat) : vstep 5 (o, h, 1) v = (o, h * 2 ^ 5 + v, 6) := by unfold vstep; rw [if_neg (by simp)]
theorem v5_6 (o : List UInt8) (h v : Nat) : vstep 5 (o, h, 6) v = (o ++ [UInt8.ofNat ((h * 2 ^ 5 + v) / 2 ^ 3)], (h * 2 ^ 5 + v) % 2 ^ 3, 3) := by unfold vstep; rw [if_pos (by simp)]; rfl
theorem v5_3 (o : List UInt8) (h v : Nat) : vstep 5 (o, h, 3) v = (o ++ [UInt8.ofNat ((h * 2 ^ 5 + v) / 2 ^ 0)], (h * 2 ^ 5 + v) % 2 ^ 0, 0) := by unfold vstep; rw [if_pos (by simp)]; rfl

theorem st5_1 (o : List UInt8) (a : Nat) (ha : a < 32) : vstep 5 (o, 0, 0) a = (o, a, 5) := by
  rw [v5_0]
  simp
theorem st5_2 (o : List UInt8) (a b : Nat) (ha : a < 32) (hb : b < 32) : vstep 5 (vstep 5 (o, 0, 0) a) b = (o ++ [UInt8.ofNat (a * 8 + b / 4)], b % 4, 2) := by
  have e1 : ((a) * 2 ^ 5 + b) / 2 ^ 2 = a * 8 + b / 4 := by omega
  have e2 : ((a) * 2 ^ 5 + b) % 2 ^ 2 = b % 4 := by omega
  rw [st5_1 o a ha, v5_5, e1, e2]
theorem st5_3 (o : List UInt8) (a b c : Nat) (ha : a < 32) (hb : b < 32) (hc : c < 32) : vstep 5 (vstep 5 (vstep 5 (o, 0, 0) a) b) c = (o ++ [UInt8.ofNat (a * 8 + b / 4)], b % 4 * 32 + c, 7) := by
  have e2 : (b % 4) * 2 ^ 5 + c = b % 4 * 32 + c := by omega
  rw [st5_2 o a b ha hb, v5_2, e2]
theorem st5_4 (o : List UInt8) (a b c d : Nat) (ha : a < 32) (hb : b < 32) (hc : c < 32) (hd : d < 32) : vstep 5 (vstep 5 (vstep 5 (vstep 5 (o, 0, 0) a) b) c) d = (o ++ [UInt8.ofNat (a * 8 + b / 4), UInt8.ofNat (b % 4 * 64 + c * 2 + d / 16)], d % 16, 4) := by
  have e1 : ((b % 4 * 32 + c) * 2 ^ 5 + d) / 2 ^ 4 = b % 4 * 64 + c * 2 + d / 16 := by omega
  have e2 : ((b % 4 * 32 + c) * 2 ^ 5 + d) % 2 ^ 4 = d % 16 := by omega
  rw [st5_3 o a b c ha hb hc, v5_7, e1, e2]
  simp only [List.append_assoc, List.cons_append, List.nil_append]
theorem st5_5 (o : List UInt8) (a b c d e : Nat) (ha : a < 32) (hb : b < 32) (hc : c < 32) (hd : d < 32) (he : e < 32) : vstep 5 (vstep 5 (vstep 5 (vstep 5 (vstep 5 (o, 0, 0) a) b) c) d) e = (o ++ [UInt8.ofNat (a * 8 + b / 4), UInt8.ofNat (b % 4 * 64 + c * 2 + d / 16), UInt8.ofNat (d % 16 * 16 + e / 2)], e % 2, 1) := by
  have e1 : ((d % 16) * 2 ^ 5 + e) / 2 ^ 1 = d % 16 * 16 + e / 2 := by omega
  have e2 : ((d % 16) * 2 ^ 5 + e) % 2 ^ 1 = e % 2 := by omega
  rw [st5_4 o a b c d ha hb hc hd, v5_4, e1, e2]
  simp only [List.append_assoc, List.cons_append, List.nil_append]
theorem st5_6 (o : List UInt8) (a b c d e f : Nat) (ha : a < 32) (hb : b < 32) (hc : c < 32) (hd : d < 32) (he : e < 32) (hf : f < 32) : vstep 5 (vstep 5 (vstep 5 (vstep 5 (vstep 5 (vstep 5 (o, 0, 0) a) b) c) d) e) f = (o ++ [UInt8.ofNat (a * 8 + b / 4), UInt8.ofNat (b % 4 * 64 + c * 2 + d / 16), UInt8.ofNat (d % 16 * 16 + e / 2)], e % 2 * 32 + f, 6) := by
  have e2 : (e % 2) * 2 ^ 5 + f = e % 2 * 32 + f := by omega
  rw [st5_5 o a b c d e ha hb hc hd he, v5_1, e2]
theorem st5_7 (o : List UInt8) (a b c d e f g : Nat) (ha : a < 32) (hb : b < 32) (hc : c < 32) (hd : d < 32) (he : e < 32) (hf : f < 32) (hg : g < 32) : vstep 5 (vstep 5 (vstep 5 (vstep 5 (vstep 5 (vstep 5 (vstep 5 (o, 0, 0) a) b) c) d) e) f) g = (o ++ [UInt8.ofNat (a * 8 + b / 4), UInt8.ofNat (b % 4 * 64 + c * 2 + d / 16), UInt8.ofNat (d % 16 * 16 + e / 2), UInt8.ofNat (e % 2 * 128 + f * 4 + g / 8)], g % 8, 3) := by
  have e1 : ((e % 2 * 32 + f) * 2 ^ 5 + g) / 2 ^ 3 = e % 2 * 128 + f * 4 + g / 8 := by omega
  have e2 : ((e % 2 * 32 + f) * 2 ^ 5 + g) % 2 ^ 3 = g % 8 := by omega
  rw [st5_6 o a b c d e f ha hb hc hd he hf, v5_6, e1, e2]
  simp only [List.append_assoc, List.cons_append, List.nil_append]
theorem st5_8 (o : List UInt8) (a b c d e f g h : Nat) (ha : a < 32) (hb : b < 32) (hc : c < 32) (hd : d < 32) (he : e < 32) (hf : f < 32) (hg : g < 32) (hh : h < 32) : vstep 5 (vstep 5 (vstep 5 (vstep 5 (vstep 5 (vstep 5 (vstep 5 (vstep 5 (o, 0, 0) a) b) c) d) e) f) g) h = (o ++ [UInt8.ofNat (a * 8 + b / 4), UInt8.ofNat (b % 4 * 64 + c * 2 + d / 16), UInt8.ofNat (d % 16 * 16 + e / 2), UInt8.ofNat (e % 2 * 128 + f * 4 + g / 8), UInt8.ofNat (g % 8 * 32 + h)], 0, 0) := by
  have e1 : ((g % 8) * 2 ^ 5 + h) / 2 ^ 0 = g % 8 * 32 + h := by omega
  have e2 : ((g % 8) * 2 ^ 5 + h) % 2 ^ 0 = 0 := by omega
  rw [st5_7 o a b c d e f g ha hb hc hd he hf hg, v5_3, e1, e2]
  simp only [List.append_assoc, List.cons_append, List.nil_append]

theorem vals_five : ∀ (ns : List Nat) (o : List UInt8), (∀ v ∈ ns, v < 32) → (ns.foldl (vstep 5) (o, 0, 0)).1 = o ++ unfive ns ∧ (ns.foldl (vstep 5) (o, 0, 0)).2.1 = unF ns
  | a :: b :: c :: d :: e :: f :: g :: h :: t, o, hall => by
    have ha := hall a (by simp); have hb := hall b (by simp); have hc := hall c (by simp); have hd := hall d (by simp); have he := hall e (by simp); have hf := hall f (by simp); have hg := hall g (by simp); have hh := hall h (by simp)
    obtain ⟨i1, i2⟩ := vals_five t (o ++ [UInt8.ofNat (a * 8 + b / 4), UInt8.ofNat (b % 4 * 64 + c * 2 + d / 16), UInt8.ofNat (d % 16 * 16 + e / 2), UInt8.ofNat (e % 2 * 128 + f * 4 + g / 8), UInt8.ofNat (g % 8 * 32 + h)]) (fun v hv => hall v (by simp [hv]))
    simp only [List.foldl_cons]
    rw [st5_8 o a b c d e f g h ha hb hc hd he hf hg hh, i1, i2]
    exact ⟨by rw [unfive, List.append_assoc]; rfl, by rw [unF]⟩
  | [a, b, c, d, e, f, g], o, hall => by
    have ha := hall a (by simp); have hb := hall b (by simp); have hc := hall c (by simp); have hd := hall d (by simp); have he := hall e (by simp); have hf := hall f (by simp); have hg := hall g (by simp)
    simp only [List.foldl_cons, List.foldl_nil]
    rw [st5_7 o a b c d e f g ha hb hc hd he hf hg]
    exact ⟨by first | (simp only [unfive]; done) | (simp only [unfive, List.append_nil]), by simp only [unF]⟩
  | [a, b, c, d, e, f], o, hall => by
    have ha := hall a (by simp); have hb := hall b (by simp); have hc := hall c (by simp); have hd := hall d (by simp); have he := hall e (by simp); have hf := hall f (by simp)
    simp only [List.foldl_cons, List.foldl_nil]
    rw [st5_6 o a b c d e f ha hb hc hd he hf]
    exact ⟨by first | (simp only [unfive]; done) | (simp only [unfive, List.append_nil]), by simp only [unF]⟩
  | [a, b, c, d, e], o, hall => by
    have ha := hall a (by simp); have hb := hall b (by simp); have hc := hall c (by simp); have hd := hall d (by simp); have he := hall e (by simp)
    simp only [List.foldl_cons, List.foldl_nil]
    rw [st5_5 o a b c d e ha hb hc hd he]
    exact ⟨by first | (simp only [unfive]; done) | (simp only [unfive, List.append_nil]), by simp only [unF]⟩
  | [a, b, c, d], o, hall => by
    have ha := hall a (by simp); have hb := hall b (by simp); have hc := hall c (by simp); have hd := hall d (by simp)
    simp only [List.foldl_cons, List.foldl_nil]
    rw [st5_4 o a b c d ha hb hc hd]
    exact ⟨by first | (simp only [unfive]; done) | (simp only [unfive, List.append_nil]), by simp only [unF]⟩
  | [a, b, c], o, hall => by
    have ha := hall a (by simp); have hb := hall b (by simp); have hc := hall c (by simp)
    simp only [List.foldl_cons, List.foldl_nil]
    rw [st5_3 o a b c ha hb hc]
    exact ⟨by first | (simp only [unfive]; done) | (simp only [unfive, List.append_nil]), by simp only [unF]⟩
  | [a, b], o, hall => by
    have ha := hall a (by simp); have hb := hall b (by simp)
    simp only [List.foldl_cons, List.foldl_nil]
    rw [st5_2 o a b ha hb]
    exact ⟨by first | (simp only [unfive]; done) | (simp only [unfive, List.append_nil]), by simp only [unF]⟩
  | [a], o, hall => by
    have ha := hall a (by simp)
    simp only [List.foldl_cons, List.foldl_nil]
    rw [st5_1 o a ha]
    exact ⟨by first | (simp only [unfive]; done) | (simp only [unfive, List.append_nil]), by simp only [unF]⟩
  | [], o, hall => by simp [unfive, unF]

theorem i64_or_nat (a b : Nat) (ha : a < 2 ^ 62) (hb : b < 2 ^ 62) : bits .or .i64 (a : Int) (b : Int) = ((a ||| b : Nat) : Int) := by
  have e1 : (BitVec.ofInt 64 (a : Int)).toNat = a := by rw [BitVec.ofInt_natCast, BitVec.toNat_ofNat]; exact Nat.mod_eq_of_lt (by omega)
  have e2 : (BitVec.ofInt 64 (b : Int)).toNat = b := by rw [BitVec.ofInt_natCast, BitVec.toNat_ofNat]; exact Nat.mod_eq_of_lt (by omega)
  have hlt : a ||| b < 2 ^ 62 := Nat.or_lt_two_pow ha hb
  show IntKind.i64.wrap ((BitVec.ofInt 64 (a : Int) ||| BitVec.ofInt 64 (b : Int)).toNat : Int) = _
  rw [BitVec.toNat_or, e1, e2, IntKind.wrap_i64]
  omega
theorem i64_and_nat (a b : Nat) (ha : a < 2 ^ 62) (hb : b < 2 ^ 62) : bits .and .i64 (a : Int) (b : Int) = ((a &&& b : Nat) : Int) := by
  have e1 : (BitVec.ofInt 64 (a : Int)).toNat = a := by rw [BitVec.ofInt_natCast, BitVec.toNat_ofNat]; exact Nat.mod_eq_of_lt (by omega)
  have e2 : (BitVec.ofInt 64 (b : Int)).toNat = b := by rw [BitVec.ofInt_natCast, BitVec.toNat_ofNat]; exact Nat.mod_eq_of_lt (by omega)
  have hlt : a &&& b < 2 ^ 62 := Nat.and_lt_two_pow a hb
  show IntKind.i64.wrap ((BitVec.ofInt 64 (a : Int) &&& BitVec.ofInt 64 (b : Int)).toNat : Int) = _
  rw [BitVec.toNat_and, e1, e2, IntKind.wrap_i64]
  omega
theorem or_i64 (a b k : Nat) (hb : b < 2 ^ k) (ha : a * 2 ^ k < 2 ^ 62) (hk : k < 62) : bits .or .i64 ((a : Int) * ((2 ^ k : Nat) : Int)) (b : Int) = ((a * 2 ^ k + b : Nat) : Int) := by
  have e : (a : Int) * ((2 ^ k : Nat) : Int) = ((a * 2 ^ k : Nat) : Int) := by rw [Int.natCast_mul]
  have hb' : b < 2 ^ 62 := Nat.lt_trans hb (Nat.pow_lt_pow_right (by omega) hk)
  rw [e, i64_or_nat _ _ ha hb', or_disj a b k hb]
theorem and_i64_mask (a k : Nat) (ha : a < 2 ^ 62) (hk : k < 62) : bits .and .i64 (a : Int) ((2 ^ k - 1 : Nat) : Int) = ((a % 2 ^ k : Nat) : Int) := by
  have h1 : 2 ^ k - 1 < 2 ^ 62 := by
    have : 2 ^ k < 2 ^ 62 := Nat.pow_lt_pow_right (by omega) hk
    omega
  rw [i64_and_nat a _ ha h1, Nat.and_two_pow_sub_one_eq_mod]

end Go.Proofs.Ytkiipbpcaakkoaa
