/-
  The contract of base32's decode: it returns what the plain decoder says, and writes its bytes to the beginning of dst. Conditions: dst has room for the bytes; src has no new lines, and lies apart from dst or not before it.
-/
import Derived.Test.YtkiipbpcaakkoaaO32B
import Derived.Test.YtkiipbpcaakkoaaEncI
import Derived.Deep.DeepCutAuto
import Derived.Deep.CutBlock
namespace Go.Proofs.Ytkiipbpcaakkoaa
open Go.RowKit
set_option linter.unusedVariables false

theorem arr256b : (Try.prog.info? 67).map (·.size) = some 256 := by kernel_rfl
theorem zero8 : (Try.prog.info? 70).bind (·.zero) = some (.agg (ocells []).toArray) := by kernel_rfl

section
variable {P : Program} {w : World} {ops : Array Oper} {rest : List Oper} {o : Oper} {a : Act} {Q : Exit → Act → World → Prop}
/-- 's[1:]' of a slice of bytes that is not empty. -/
theorem wpList_slice_one (hgd : o.guard = none) (ty e : TypeId) (x : Operand) (ho : o.op = .slice ty x (some (.const (.int .i64 1))) none none) (hu : P.underlying ty = some (.slice e)) (hsz : (P.info? e).map (·.size) = some 1) (b i R C : Nat) (hx : a.eval x = .slice (some ⟨b, i, none⟩) R C) (hR : 1 ≤ R) (hRC : R ≤ C)
    (h : ∀ A', Hid (1 < R → A' = some ⟨b, i + 1, none⟩) → wpList P ops Q rest (a.put o.dst (.slice A' (R - 1) (C - 1))) w) : wpList P ops Q (o :: rest) a w := by
  refine wpList_plain hgd fun K hK => ?_
  have hrun : (Instr.sliceAt ty (.slice (some ⟨b, i, none⟩) R C) (some (.int .i64 1)) none none).run P w = .ok (.slice (if C = 1 then some ⟨b, i, none⟩ else some ⟨b, i + 1, none⟩) (R - 1) (C - 1)) w := by
    cases hi : P.info? e with
    | none => simp [hi] at hsz
    | some inf =>
      have hs1 : inf.size = 1 := by simpa [hi] using hsz
      have hR' : (1 : Int) ≤ (R : Int) := by omega
      simp [Instr.sliceAt, Instr.slice, run_underlying hu, Instr.sliceBounds, run_sliceBound, sizeOf, typeInfo, hi, hs1, hR', Addr.add]
  unfold Oper.wp
  have hc1 : a.eval (.const (.int .i64 1)) = .int .i64 1 := rfl
  simp only [execOp, ho, Option.map_some, Option.map_none, hx, hc1, hrun, Sem.run_bind, Sem.run_pure, Result.andThen_ok]
  refine hK _ _ (h _ fun h1 => ?_)
  rw [if_neg (by omega)]
end

/-- What decode leaves. -/
def OPost (T : TypeId) (R : List UInt8 × Option Int) (g o : Nat) (t : TypeId) (cur : List Value) (w : World) (e : Ending) (w' : World) : Prop :=
  ∃ fin, e = .returned (.tuple #[.int .i64 (R.1.length : Int), .bool fin, errV T R.2]) ∧ Wr32 g o t cur w R.1 w'

theorem opost_mk {T : TypeId} {R : List UInt8 × Option Int} {g o : Nat} {t : TypeId} {cur : List Value} {w w' : World} {ds : List UInt8} {er : Option Int} (h : R = (ds, er)) (hw : Wr32 g o t cur w ds w') (n : Int) (fin : Bool) (v : Value) (hn : n = (ds.length : Int)) (hv : v = errV T er) :
    OPost T R g o t cur w (.returned (.tuple #[.int .i64 n, .bool fin, v])) w' := by
  subst h
  subst hn
  subst hv
  exact ⟨fin, rfl, hw⟩

theorem opost_bad {T : TypeId} {RR : List UInt8 × Option Int} {a : List UInt8} {p : Int} {src : List UInt8} {k : Nat} {g o : Nat} {t : TypeId} {cur : List Value} {w w' : World} {ds : List UInt8} {e : Int} (hr : octDec a p src.length src = RR) (hi : OInv a p src k ds) (hk : k < src.length) (ho : oct a p src.length [] (src.drop k) = .bad e) (hw : Wr32 g o t cur w ds w') (n : Int) (fin : Bool) (e' : Int) (hn : n = (ds.length : Int)) (he : e' = e) :
    OPost T RR g o t cur w (.returned (.tuple #[.int .i64 n, .bool fin, .iface T (.int .i64 e')])) w' :=
  opost_mk (by rw [← hr]; exact hi.bad hk e ho) hw n fin _ hn (by rw [he]; rfl)

theorem notpad_cases {x y : Int} {j r : Nat} (h : ¬ (x = y ∧ 2 ≤ j ∧ r < 8)) : ¬ x = y ∨ (x = y ∧ j < 2) ∨ (x = y ∧ 2 ≤ j ∧ 8 ≤ r) := by omega

/-- What holds of the slots between two rounds. -/
def ORel (a : List UInt8) (p : Int) (src : List UInt8) (N m g o b off c : Nat) (t : TypeId) (cur : List Value) (w : World) (s2 s6 s7 s9 : Value) (wr : World) : Prop :=
  (∃ (k n R C : Nat) (A : Option Addr) (ds : List UInt8), n ≤ m ∧ n ≤ k ∧ k + R ≤ N ∧ N ≤ k + R ∧ R ≤ C ∧ C ≤ c ∧ s2 = .slice A R C ∧ s6 = .int .i64 (n : Int) ∧ s7 = .bool false ∧ s9 = .int .i64 (n : Int) ∧ Hid (0 < R → A = some ⟨b, off + k, none⟩) ∧ Hid (ds.length = n) ∧ Hid (OInv a p src k ds) ∧ Hid (Wr32 g o t cur w ds wr)) ∨
  (∃ (n R C : Nat) (A : Option Addr) (ds : List UInt8) (i9 : Int), n ≤ m ∧ R ≤ C ∧ C ≤ c ∧ s2 = .slice A R C ∧ s6 = .int .i64 (n : Int) ∧ s7 = .bool true ∧ s9 = .int .i64 i9 ∧ Hid (ds.length = n) ∧ Hid (octDec a p src.length src = (ds, none)) ∧ Hid (Wr32 g o t cur w ds wr))

theorem octBytes8 (v : List Nat) (h : v.length = 8) : (octBytes v).length = 5 := by
  obtain ⟨x0, x1, x2, x3, x4, x5, x6, x7, rfl⟩ := list8 v h
  rfl

theorem orel_next {a : List UInt8} {p : Int} {src : List UInt8} {N m g o b off c k n R C : Nat} {t : TypeId} {cur : List Value} {w w' : World} {ds : List UInt8} {v : List Nat} {u : List UInt8} {fin : Bool} {A : Option Addr} (hI : OInv a p src k ds) (hk : k < src.length) (hN : N = src.length) (hdl : ds.length = n) (ho : oct a p src.length [] (src.drop k) = .got v u fin)
    (hf : fin = false → u = src.drop (k + 8) ∧ k + 8 + R = N ∧ (0 < R → A = some ⟨b, off + (k + 8), none⟩)) (hRC : R ≤ C) (hCc : C ≤ c) (hnk : n ≤ k) (hrm : n + (octBytes v).length ≤ m) (hw : Wr32 g o t cur w (ds ++ octBytes v) w') (i6 i9 : Int) (h6 : i6 = (n : Int) + ((octBytes v).length : Int)) (h9 : fin = false → i9 = (n : Int) + 5) :
    ORel a p src N m g o b off c t cur w (.slice A R C) (.int .i64 i6) (.bool fin) (.int .i64 i9) w' := by
  subst h6
  have hlen : (ds ++ octBytes v).length = n + (octBytes v).length := by rw [List.length_append, hdl]
  cases fin
  · obtain ⟨f1, f2, f3⟩ := hf rfl
    have h8 := (oct_len a p src.length (src.drop k) [] v u false ho).2 (by simp) |>.2 rfl
    have h5 := octBytes8 v h8
    rw [f1] at ho
    have h9' := h9 rfl
    subst h9'
    refine Or.inl ⟨k + 8, n + 5, R, C, A, ds ++ octBytes v, by omega, by omega, by omega, by omega, hRC, hCc, rfl, by rw [h5]; rfl, rfl, rfl, f3, by show _ = _; omega, hI.step hk ho, hw⟩
  · exact Or.inr ⟨n + (octBytes v).length, R, C, A, ds ++ octBytes v, _, by omega, hRC, hCc, rfl, rfl, rfl, rfl, hlen, hI.fin hk u ho, hw⟩

/-- What holds of the slots in a quantum. -/
def IRel (a : List UInt8) (p : Int) (src : List UInt8) (N k b off c gd : Nat) (E : TypeId) (wq : World) (n : Nat) (s2 s6 s7 s12 s13 : Value) (wr : World) : Prop :=
  ∃ (v : List Nat) (R C : Nat) (A : Option Addr), v.length ≤ 8 ∧ k + v.length + R ≤ N ∧ N ≤ k + v.length + R ∧ R ≤ C ∧ C ≤ c ∧ s2 = .slice A R C ∧ s6 = .int .i64 (n : Int) ∧ s7 = .bool false ∧ s12 = .int .i64 8 ∧ s13 = .int .i64 (v.length : Int) ∧ Hid (0 < R → A = some ⟨b, off + (k + v.length), none⟩) ∧ Hid (Blk wr gd E (ocells v)) ∧ Hid (Below wq.heap.size wq wr) ∧
    Hid ((v.length < 8 ∧ oct a p src.length [] (src.drop k) = oct a p src.length v (src.drop (k + v.length))) ∨ (v.length = 8 ∧ oct a p src.length [] (src.drop k) = .got v (src.drop (k + 8)) false))

theorem irel_next {a : List UInt8} {p : Int} {src : List UInt8} {N k b off c gd n x R C : Nat} {E : TypeId} {wq wr : World} {v : List Nat} {A : Option Addr} (hv : v.length < 8) (hq : (v.length ≠ 7 → oct a p src.length [] (src.drop k) = oct a p src.length (v ++ [x]) (src.drop (k + v.length + 1))) ∧ (v.length = 7 → oct a p src.length [] (src.drop k) = .got (v ++ [x]) (src.drop (k + v.length + 1)) false)) (hdb : Blk wr gd E (ocells v)) (hw : Below wq.heap.size wq wr) (hgd : wq.heap.size ≤ gd)
    (hA : 1 < R + 1 → A = some ⟨b, off + (k + v.length) + 1, none⟩) (h1 : k + v.length + (R + 1) ≤ N) (h2 : N ≤ k + v.length + (R + 1)) (h3 : R ≤ C) (h4 : C ≤ c) :
    IRel a p src N k b off c gd E wq n (.slice A R C) (.int .i64 (n : Int)) (.bool false) (.int .i64 8) (.int .i64 ((v.length : Int) + 1)) (wr.setCell ⟨gd, v.length, none⟩ (.int .u8 (x : Int))) := by
  have hl : (v ++ [x]).length = v.length + 1 := by simp
  refine ⟨v ++ [x], R, C, A, by omega, by omega, by omega, h3, h4, rfl, rfl, rfl, rfl, by rw [hl]; rfl, fun h => ?_, ?_, hw.setCell hgd _, ?_⟩
  · rw [hA (by omega), hl]
    rfl
  · have := hdb.set_ v.length (.int .u8 (x : Int))
    rw [ocells_set v x hv] at this
    exact this
  · rw [hl]
    by_cases h7 : v.length = 7
    · refine Or.inr ⟨by omega, ?_⟩
      rw [hq.2 h7, h7]
    · exact Or.inl ⟨by omega, hq.1 h7⟩

/-- What a quantum leaves. -/
def OCut (a : List UInt8) (p : Int) (src : List UInt8) (N k b off c gd : Nat) (E : TypeId) (wq : World) (n : Nat) (s2 s6 s7 s12 : Value) (wx : World) : Prop :=
  ∃ (v : List Nat) (u : List UInt8) (fin : Bool) (R C : Nat) (A : Option Addr) (LI : Int), R ≤ C ∧ C ≤ c ∧ s2 = .slice A R C ∧ s6 = .int .i64 (n : Int) ∧ s7 = .bool fin ∧ s12 = .int .i64 LI ∧ Hid (LI = (v.length : Int)) ∧ Hid (oct a p src.length [] (src.drop k) = .got v u fin) ∧ Hid (fin = false → u = src.drop (k + 8) ∧ k + 8 + R = N ∧ (0 < R → A = some ⟨b, off + (k + 8), none⟩)) ∧ Hid (Blk wx gd E (ocells v)) ∧ Hid (Below wq.heap.size wq wx)

set_option maxHeartbeats 4000000 in
set_option maxRecDepth 100000 in
theorem decode32_any (ge g o od m mc c b off : Nat) (t : TypeId) (a : List UInt8) (p : Int) (A : Option Addr) (src : List UInt8) (cur : List Value) (w : World)
    (he : Blk w ge 69 (encTo a 32 [.int .i32 p])) (hz : a.length = 32) (hp1 : -1 ≤ p) (hp2 : p ≤ 255) (hegn : ge ≠ g)
    (hb : Blm w g t cur) (hD : 0 < m → od = o) (hfit : o + m ≤ cur.length) (hmc : m ≤ mc) (hmx : mc ≤ maxLen)
    (hroom : (octDec a p src.length src).1.length ≤ m)
    (hA : 0 < src.length → A = some ⟨b, off, none⟩) (hs : Rs32 w g o b off src) (hc : src.length ≤ c) (hcx : c ≤ maxLen) :
    Calls Try.prog 29 #[.pointer (some ⟨ge, 0, none⟩), .slice (some ⟨g, od, none⟩) m mc, .slice A src.length c] w (OPost 56 (octDec a p src.length src) g o t cur w) := by
  have HMX := Lib.hid hmx
  have HCX := Lib.hid hcx
  unfold maxLen at hmx hcx
  have HE := Lib.hid he
  have HZ := Lib.hid hz
  have HB := Lib.hid hb
  have HD := Lib.hid hD
  have HA := Lib.hid hA
  have HS := Lib.hid hs
  have HRM := Lib.hid hroom
  have hce : (encTo a 32 [.int .i32 p]).length = 289 := by rw [encTo_length, hz]; rfl
  have HCE := Lib.hid hce
  have HEG := Lib.hid hegn
  clear he hz hb hD hA hs hroom hce hegn
  obtain ⟨N, hN⟩ : ∃ N, N = src.length := ⟨_, rfl⟩
  rw [← hN] at hc
  have HAt : Hid (0 < N → A = some ⟨b, off, none⟩) := by rw [hN]; exact HA.out
  have HN := Lib.hid hN
  obtain ⟨PI, hpm⟩ : ∃ PI : Int, p % 256 = PI := ⟨_, rfl⟩
  have HPI : Hid (PI = padOf p) := hpm.symm
  have hPI0 : 0 ≤ PI := by omega
  have hPI1 : PI ≤ 255 := by omega
  clear HA
  generalize hRR : octDec a p src.length src = RR at *
  have HRR := Lib.hid hRR
  clear hRR
  rw [← hN]
  clear hN
  go_enter Try.func29, Try.ntmps29
  go_wp2_with ((with_reducible refine wpList_load_arr rfl 67 _ rfl ge 32 256 _ _ HE.out _ Try.underlying67 arr256b ?_ ?_ ?_); (rw [HCE.out]; omega); rfl; intro v19)
  go_loopw [2, 6, 7, 9] (fun s2 s6 s7 s9 wr => ORel a p src N m g o b off c t cur w s2 s6 s7 s9 wr) (fun s2 _ s7 _ _ => (match s7 with | .bool true => 0 | _ => lenOfV s2 + 1))
  case atStart => exact Or.inl ⟨0, 0, N, c, A, [], Nat.zero_le _, Nat.zero_le _, by omega, by omega, hc, Nat.le_refl _, rfl, rfl, rfl, rfl, HAt, rfl, OInv.start, Wr32.start HB.out⟩
  case round =>
    rcases hrel with ⟨k, n, R, C, A1, ds, hn, hnk, hR1, hR2, hRC, hCc, rfl, rfl, rfl, rfl, HA1, HDL, HI, HW⟩ | ⟨n, R, C, A1, ds, i9, hn, hRC, hCc, rfl, rfl, rfl, rfl, HDL, HI, HW⟩
    · obtain ⟨wq, rfl⟩ : ∃ wq : World, wq = wr := ⟨_, rfl⟩
      by_cases hqN : 0 < R
      · have hE0 : Blk wq ge 69 (encTo a 32 [.int .i32 p]) := by obtain ⟨_, _, _, _, _, g5⟩ := HW.out; exact HE.out.grown g5 (by have := HEG.out; simpa using this)
        have HE0 := Lib.hid hE0
        clear hE0
        have hkN : Hid (k < src.length) := by show _ < _; rw [← HN.out]; omega
        go_upto_block 2 with (first
          | (with_reducible refine wpList_alloc_row rfl 70 rfl (ocells []) zero8 ?_
             intro w1 hb1 he1
             have HW1 : Hid (Below wq.heap.size wq w1) := by have := (Below.refl wq.heap.size wq).alloc (Nat.le_refl _) (.cells (ocells []).toArray 70); rw [← he1.out] at this; exact this
             clear he1)
          | fail)
        go_cut [2, 6, 7, 12] (fun s2 s6 s7 s12 wx => OCut a p src N k b off c wq.heap.size 70 wq n s2 s6 s7 s12 wx)
        case first =>
          go_wp2_with fail
          go_loopw [2, 6, 7, 12, 13] (fun s2 s6 s7 s12 s13 wx => IRel a p src N k b off c wq.heap.size 70 wq n s2 s6 s7 s12 s13 wx) (fun _ _ _ _ s13 _ => 8 - (intOf s13).toNat)
          case atStart => exact ⟨[], R, C, A1, Nat.zero_le _, by simpa using hR1, by simpa using hR2, hRC, hCc, rfl, rfl, rfl, rfl, rfl, HA1, hb1, HW1, Or.inl ⟨by simp, rfl⟩⟩
          case round =>
            clear hb1 HW1
            as_aux_lemma =>
              obtain ⟨v, R2, C2, A2, hv8, hs1, hs2, hRC2, hCc2, rfl, rfl, rfl, rfl, rfl, HA2, HDB, HW1, HQ⟩ := hrel
              by_cases hv : v.length < 8
              · have HQI : Hid (oct a p src.length [] (src.drop k) = oct a p src.length v (src.drop (k + v.length))) := by
                  rcases HQ.out with h | h
                  · exact h.2
                  · omega
                clear HQ
                have hE1 := HE0.out.below HW1.out HE0.out.lt
                have hpc : wr.cell? ⟨ge, 288, none⟩ = some (.int .i32 p) := (hE1.cell 288).trans (encTo_tail a 32 _ 32 0 HZ.out)
                have HE1 := Lib.hid hE1
                clear hE1
                by_cases hR0 : 0 < R2
                · obtain ⟨c0, hc0⟩ : ∃ c0, src[k + v.length]? = some c0 := ⟨_, List.getElem?_eq_getElem (by rw [← HN.out]; omega)⟩
                  have hm : wr.cell? ⟨ge, 32 + c0.toNat, none⟩ = some (.int .u8 (mapAt a 32 c0.toNat)) := (HE1.out.cell _).trans (encTo_map a 32 _ 32 _ HZ.out c0.toNat_lt)
                  have hA2 := HA2.out hR0
                  subst hA2
                  obtain ⟨R3, rfl⟩ : ∃ R3, R2 = R3 + 1 := ⟨R2 - 1, by omega⟩
                  obtain ⟨C3, rfl⟩ : ∃ C3, C2 = C3 + 1 := ⟨C2 - 1, by omega⟩
                  have hcell : wr.cell? ⟨b, off + (k + v.length), none⟩ = some (.int .u8 (c0.toNat : Int)) := by
                    have h1 := Rs32.now HS.out HB.out HW.out (k + v.length) (by rw [HDL.out]; omega) c0 hc0
                    exact (HW1.out.cell (p := ⟨b, off + (k + v.length), none⟩) (World.block_lt_of_cell? wq _ h1)).trans h1
                  have hdc : wr.cell? ⟨wq.heap.size, v.length, none⟩ = some (.int .u8 0) := (HDB.out.cell _).trans (ocells_next v hv)
                  have hdf : wr.frozen? ⟨wq.heap.size, v.length, none⟩ = false := HDB.out.frozen _
                  have hcb := c0.toNat_lt
                  have HC0 := Lib.hid hc0
                  clear hc0
                  go_upto_region 15 with (first
                    | ((with_reducible refine wpList_slice_one rfl 22 5 _ rfl Try.underlying22 one32 b (off + (k + v.length)) (R3 + 1) (C3 + 1) ?_ ?_ ?_ ?_); rfl; omega; omega; intro A3 HA3)
                    | fail)
                  by_cases hpd : (c0.toNat : Int) = PI ∧ 2 ≤ v.length ∧ R3 < 8
                  · obtain ⟨hx, hy, hz⟩ := hpd
                    have hpb : ((c0.toNat : Int) == PI) = true := by simpa using hx
                    have h2d : decide ((2 : Int) ≤ (v.length : Int)) = true := by rw [decide_eq_true_iff]; omega
                    have h8d : decide ((R3 : Int) < 8) = true := by rw [decide_eq_true_iff]; omega
                    have HQP : Hid (oct a p src.length [] (src.drop k) = octPad p src.length v (src.drop (k + v.length + 1))) := by show _ = _; rw [HQI.out, oct_padding HC0.out (by rw [← HPI.out]; exact hx) hy (by have := HN.out; omega)]
                    clear HQI hx hm hdc hdf
                    by_cases hsh : R3 + v.length < 7
                    · have h7d : decide ((R3 : Int) + (v.length : Int) < 7) = true := by rw [decide_eq_true_iff]; omega
                      have HBD : Hid (oct a p src.length [] (src.drop k) = .bad (src.length : Int)) := by show _ = _; rw [HQP.out, octPad_short (by have := HN.out; omega)]
                      clear HQP
                      go_wp2
                      go_ret3
                      exact opost_bad HRR.out HI.out hkN.out HBD.out (HW.out.below HW1.out) _ _ _ (by rw [HDL.out]) (by rw [HN.out])
                    · have h7d : decide ((R3 : Int) + (v.length : Int) < 7) = false := by rw [decide_eq_false_iff_not]; omega
                      obtain ⟨wx, rfl⟩ : ∃ wx : World, wx = wr := ⟨_, rfl⟩
                      have HPCx := Lib.hid hpc
                      go_wp2_with fail
                      clear hpc hcell
                      go_loopw [6, 7, 15] (fun s6 s7 s15 wr => ∃ i q : Nat, i + v.length ≤ 7 ∧ s6 = .int .i64 (n : Int) ∧ s7 = .bool false ∧ s15 = .int .i64 (i : Int) ∧ Hid (∀ j e, j < i → src[k + v.length + 1 + j]? = some e → (e.toNat : Int) = padOf p) ∧ wr = wx.drewN q) (fun _ _ s15 _ => 7 - (intOf s15).toNat)
                      case atStart => exact ⟨0, 0, by omega, rfl, rfl, rfl, fun j e h => absurd h (Nat.not_lt_zero _), rfl⟩
                      case round =>
                        obtain ⟨i, q, hi, rfl, rfl, rfl, HAL, rfl⟩ := hrel
                        have hpc := HPCx.out
                        by_cases hi7 : i + v.length < 7
                        · have hid : decide ((i : Int) < 7 - (v.length : Int)) = true := by rw [decide_eq_true_iff]; omega
                          have hig : decide (i < R3) = true := by rw [decide_eq_true_iff]; omega
                          obtain ⟨d, hd⟩ : ∃ d, src[k + v.length + 1 + i]? = some d := ⟨_, List.getElem?_eq_getElem (by rw [← HN.out]; omega)⟩
                          have hA3 := HA3.out (by omega)
                          subst hA3
                          have hcell : wx.cell? ⟨b, off + (k + v.length) + 1 + i, none⟩ = some (.int .u8 (d.toNat : Int)) := by
                            have h1 := Rs32.now HS.out HB.out HW.out (k + v.length + 1 + i) (by rw [HDL.out]; omega) d hd
                            rw [show off + (k + v.length) + 1 + i = off + (k + v.length + 1 + i) by omega]
                            exact (HW1.out.cell (p := ⟨b, off + (k + v.length + 1 + i), none⟩) (World.block_lt_of_cell? wq _ h1)).trans h1
                          have hdb := d.toNat_lt
                          have z0 : (0 : Int) ≤ (i : Int) := by omega
                          have z1 : (i : Int) < (R3 : Int) := by omega
                          by_cases hdp : (d.toNat : Int) = PI
                          · have hdpb : ((d.toNat : Int) != PI) = false := by simpa using hdp
                            have HAL2 : Hid (∀ j e, j < i + 1 → src[k + v.length + 1 + j]? = some e → (e.toNat : Int) = padOf p) := fun j e hj he => by
                              rcases Nat.lt_or_ge j i with h | h
                              · exact HAL.out j e h he
                              · obtain rfl : j = i := by omega
                                rw [hd] at he
                                simp only [Option.some.injEq] at he
                                rw [← he, hdp]
                                exact HPI.out
                            clear hdp hd HAL
                            go_wp2_with fail
                            go_quiet (fail)
                            go_wp2
                            go_roundw
                            case rel => exact ⟨i + 1, _, by omega, rfl, rfl, by go_num, HAL2, rfl⟩
                            case measure => simp [intOf]; omega
                          · have hdpb : ((d.toNat : Int) != PI) = true := by simpa using hdp
                            have HBD : Hid (oct a p src.length [] (src.drop k) = .bad ((src.length : Int) - ((src.length - (k + v.length + 1) : Nat) : Int) + (i : Int) - 1)) := by show _ = _; rw [HQP.out, octPad_hit (by have := HN.out; omega) i (by omega) d hd (by rw [← HPI.out]; exact hdp) HAL.out]
                            clear hdp hd HAL HQP
                            go_wp2_with fail
                            go_quiet (fail)
                            go_wp2
                            go_ret3
                            exact opost_bad HRR.out HI.out hkN.out HBD.out ((HW.out.below HW1.out).below (below_drewN (Below.refl _ wx) _)) _ _ _ (by rw [HDL.out]) (by have := HN.out; omega)
                        · have hid : decide ((i : Int) < 7 - (v.length : Int)) = false := by rw [decide_eq_false_iff_not]; omega
                          have HQF := Lib.hid (HQP.out.trans (octPad_pads (n := src.length) (by have := HN.out; omega) (fun j e hj he => HAL.out j e (by omega) he)))
                          clear HAL HQP
                          rcases (by omega : v.length = 3 ∨ v.length = 6 ∨ (v.length ≠ 1 ∧ v.length ≠ 3 ∧ v.length ≠ 6)) with h3 | h3 | ⟨h1, h3, h6⟩
                          · have e1 : ((v.length : Int) == 1) = false := by rw [beq_eq_false_iff_ne]; omega
                            have e3 : ((v.length : Int) == 3) = true := by rw [beq_iff_eq]; omega
                            have HBD : Hid (oct a p src.length [] (src.drop k) = .bad ((src.length : Int) - ((src.length - (k + v.length + 1) : Nat) : Int) - 1)) := by show _ = _; rw [HQF.out, if_pos (by omega)]
                            clear h3 HQF
                            go_wp2
                            go_ret3
                            exact opost_bad HRR.out HI.out hkN.out HBD.out ((HW.out.below HW1.out).below (below_drewN (Below.refl _ wx) q)) _ _ _ (by rw [HDL.out]) (by have := HN.out; omega)
                          · have e1 : ((v.length : Int) == 1) = false := by rw [beq_eq_false_iff_ne]; omega
                            have e3 : ((v.length : Int) == 3) = false := by rw [beq_eq_false_iff_ne]; omega
                            have e6 : ((v.length : Int) == 6) = true := by rw [beq_iff_eq]; omega
                            have HBD : Hid (oct a p src.length [] (src.drop k) = .bad ((src.length : Int) - ((src.length - (k + v.length + 1) : Nat) : Int) - 1)) := by show _ = _; rw [HQF.out, if_pos (by omega)]
                            clear h3 HQF
                            go_wp2
                            go_ret3
                            exact opost_bad HRR.out HI.out hkN.out HBD.out ((HW.out.below HW1.out).below (below_drewN (Below.refl _ wx) q)) _ _ _ (by rw [HDL.out]) (by have := HN.out; omega)
                          · have e1 : ((v.length : Int) == 1) = false := by rw [beq_eq_false_iff_ne]; omega
                            have e3 : ((v.length : Int) == 3) = false := by rw [beq_eq_false_iff_ne]; omega
                            have e6 : ((v.length : Int) == 6) = false := by rw [beq_eq_false_iff_ne]; omega
                            have HGT : Hid (oct a p src.length [] (src.drop k) = .got v (src.drop (k + v.length + 1)) true) := by show _ = _; rw [HQF.out, if_neg (by omega)]
                            clear h1 h3 h6 HQF
                            go_wp2
                            go_meet
                            exact ⟨v, _, true, R3, C3, _, _, by omega, by omega, rfl, rfl, rfl, rfl, rfl, HGT, (fun h => by cases h), HDB.out.drewN q, below_drewN HW1.out q⟩
                  · rcases notpad_cases hpd with hx | ⟨hx, hy⟩ | ⟨hx, hy, hz⟩
                    · have hpb : ((c0.toNat : Int) == PI) = false := by simpa using hx
                      have HNP : Hid (¬ ((c0.toNat : Int) = padOf p ∧ 2 ≤ v.length ∧ src.length - (k + v.length + 1) < 8)) := by
                        have := HPI.out
                        have := HN.out
                        intro ⟨q1, q2, q3⟩
                        exact hx (by rw [q1]; exact HPI.out.symm)
                      clear hx
                      cases hl : isL a c0
                      · rw [map_other hl] at hm
                        have HBD : Hid (oct a p src.length [] (src.drop k) = .bad ((src.length : Int) - ((src.length - (k + v.length + 1) : Nat) : Int) - 1)) := by show _ = _; rw [HQI.out, oct_other HC0.out HNP.out hl]
                        clear hl
                        go_wp2
                        go_ret3
                        exact opost_bad HRR.out HI.out hkN.out HBD.out (HW.out.below (HW1.out.setCell (Nat.le_refl _) _)) _ _ _ (by rw [HDL.out]) (by have := HN.out; omega)
                      · obtain ⟨hmx1, hmx2⟩ := map_letter hl HZ.out
                        rw [hmx1] at hm
                        have HQN : Hid ((v.length ≠ 7 → oct a p src.length [] (src.drop k) = oct a p src.length (v ++ [numL a c0]) (src.drop (k + v.length + 1))) ∧ (v.length = 7 → oct a p src.length [] (src.drop k) = .got (v ++ [numL a c0]) (src.drop (k + v.length + 1)) false)) := ⟨fun h7 => by rw [HQI.out, oct_letter HC0.out HNP.out hl h7], fun h7 => by rw [HQI.out, oct_last HC0.out HNP.out hl h7]⟩
                        clear hl hmx1 HQI HNP
                        generalize numL a c0 = x at *
                        have hx255 : ((x : Int) == 255) = false := by rw [beq_eq_false_iff_ne]; omega
                        go_wp2
                        go_roundw
                        case rel => exact irel_next hv HQN.out HDB.out HW1.out (Nat.le_refl _) HA3.out hs1 hs2 (by omega) (by omega)
                        case measure => simp [intOf]; omega
                    · have hpb : ((c0.toNat : Int) == PI) = true := by simpa using hx
                      have h2d : decide ((2 : Int) ≤ (v.length : Int)) = false := by rw [decide_eq_false_iff_not]; omega
                      have HNP : Hid (¬ ((c0.toNat : Int) = padOf p ∧ 2 ≤ v.length ∧ src.length - (k + v.length + 1) < 8)) := by
                        have := HPI.out
                        have := HN.out
                        intro ⟨q1, q2, q3⟩
                        omega
                      clear hx hy
                      cases hl : isL a c0
                      · rw [map_other hl] at hm
                        have HBD : Hid (oct a p src.length [] (src.drop k) = .bad ((src.length : Int) - ((src.length - (k + v.length + 1) : Nat) : Int) - 1)) := by show _ = _; rw [HQI.out, oct_other HC0.out HNP.out hl]
                        clear hl
                        go_wp2
                        go_ret3
                        exact opost_bad HRR.out HI.out hkN.out HBD.out (HW.out.below (HW1.out.setCell (Nat.le_refl _) _)) _ _ _ (by rw [HDL.out]) (by have := HN.out; omega)
                      · obtain ⟨hmx1, hmx2⟩ := map_letter hl HZ.out
                        rw [hmx1] at hm
                        have HQN : Hid ((v.length ≠ 7 → oct a p src.length [] (src.drop k) = oct a p src.length (v ++ [numL a c0]) (src.drop (k + v.length + 1))) ∧ (v.length = 7 → oct a p src.length [] (src.drop k) = .got (v ++ [numL a c0]) (src.drop (k + v.length + 1)) false)) := ⟨fun h7 => by rw [HQI.out, oct_letter HC0.out HNP.out hl h7], fun h7 => by rw [HQI.out, oct_last HC0.out HNP.out hl h7]⟩
                        clear hl hmx1 HQI HNP
                        generalize numL a c0 = x at *
                        have hx255 : ((x : Int) == 255) = false := by rw [beq_eq_false_iff_ne]; omega
                        go_wp2
                        go_roundw
                        case rel => exact irel_next hv HQN.out HDB.out HW1.out (Nat.le_refl _) HA3.out hs1 hs2 (by omega) (by omega)
                        case measure => simp [intOf]; omega
                    · have hpb : ((c0.toNat : Int) == PI) = true := by simpa using hx
                      have h2d : decide ((2 : Int) ≤ (v.length : Int)) = true := by rw [decide_eq_true_iff]; omega
                      have h8d : decide ((R3 : Int) < 8) = false := by rw [decide_eq_false_iff_not]; omega
                      have HNP : Hid (¬ ((c0.toNat : Int) = padOf p ∧ 2 ≤ v.length ∧ src.length - (k + v.length + 1) < 8)) := by
                        have := HPI.out
                        have := HN.out
                        intro ⟨q1, q2, q3⟩
                        omega
                      clear hx hy hz
                      cases hl : isL a c0
                      · rw [map_other hl] at hm
                        have HBD : Hid (oct a p src.length [] (src.drop k) = .bad ((src.length : Int) - ((src.length - (k + v.length + 1) : Nat) : Int) - 1)) := by show _ = _; rw [HQI.out, oct_other HC0.out HNP.out hl]
                        clear hl
                        go_wp2
                        go_ret3
                        exact opost_bad HRR.out HI.out hkN.out HBD.out (HW.out.below (HW1.out.setCell (Nat.le_refl _) _)) _ _ _ (by rw [HDL.out]) (by have := HN.out; omega)
                      · obtain ⟨hmx1, hmx2⟩ := map_letter hl HZ.out
                        rw [hmx1] at hm
                        have HQN : Hid ((v.length ≠ 7 → oct a p src.length [] (src.drop k) = oct a p src.length (v ++ [numL a c0]) (src.drop (k + v.length + 1))) ∧ (v.length = 7 → oct a p src.length [] (src.drop k) = .got (v ++ [numL a c0]) (src.drop (k + v.length + 1)) false)) := ⟨fun h7 => by rw [HQI.out, oct_letter HC0.out HNP.out hl h7], fun h7 => by rw [HQI.out, oct_last HC0.out HNP.out hl h7]⟩
                        clear hl hmx1 HQI HNP
                        generalize numL a c0 = x at *
                        have hx255 : ((x : Int) == 255) = false := by rw [beq_eq_false_iff_ne]; omega
                        go_wp2
                        go_roundw
                        case rel => exact irel_next hv HQN.out HDB.out HW1.out (Nat.le_refl _) HA3.out hs1 hs2 (by omega) (by omega)
                        case measure => simp [intOf]; omega
                · have hR2 : ((R2 : Int) == 0) = true := by rw [beq_iff_eq]; omega
                  have hR3 : Hid (R2 = 0) := by show _ = _; omega
                  have HOE := Lib.hid (HQI.out.trans (oct_end (by rw [← HN.out]; omega)))
                  clear HQI
                  by_cases hpn : p = -1
                  · have hpt : (p != -1) = false := by simpa using hpn
                    have HGT : Hid (oct a p src.length [] (src.drop k) = .got v [] true) := by show _ = _; rw [HOE.out, if_neg (by simpa using hpn)]
                    clear hpn HOE
                    go_wp2
                    go_meet
                    exact ⟨v, _, true, R2, C2, _, _, hRC2, hCc2, rfl, rfl, rfl, rfl, rfl, HGT, (fun h => by cases h), HDB, HW1⟩
                  · have hpt : (p != -1) = true := by simpa using hpn
                    have HBD : Hid (oct a p src.length [] (src.drop k) = .bad ((src.length : Int) - (v.length : Int))) := by show _ = _; rw [HOE.out, if_pos hpn]
                    clear hpn HOE
                    go_wp2
                    go_ret3
                    exact opost_bad HRR.out HI.out hkN.out HBD.out (HW.out.below HW1.out) _ _ _ (by rw [HDL.out]) (by have := HN.out; have := hR3.out; omega)
              · have HGT : Hid (v.length = 8 ∧ oct a p src.length [] (src.drop k) = .got v (src.drop (k + 8)) false) := by
                  rcases HQ.out with h | h
                  · omega
                  · exact h
                have hv8d : decide ((v.length : Int) < 8) = false := by rw [decide_eq_false_iff_not]; omega
                have HV8 : Hid ((8 : Int) = (v.length : Int)) := by show _ = _; have := HGT.out.1; omega
                have HA8 : Hid (k + 8 + R2 = N ∧ (0 < R2 → A2 = some ⟨b, off + (k + 8), none⟩)) := by
                  have h8 := HGT.out.1
                  refine ⟨by omega, fun h => ?_⟩
                  have := HA2.out h
                  rw [h8] at this
                  exact this
                clear HQ HA2
                go_wp2
                go_meet
                exact ⟨v, _, false, R2, C2, A2, 8, hRC2, hCc2, rfl, rfl, rfl, rfl, HV8, HGT.out.2, (fun _ => ⟨rfl, HA8.out.1, HA8.out.2⟩), HDB, HW1⟩
        case rest =>
          clear hb1 HW1
          obtain ⟨v, u, fin, R2, C2, A2, LI, hR2a, hC2a, rfl, rfl, rfl, rfl, HLI, HO, HF, HDB, HW1⟩ := hcut
          have hgo := oct_len a p src.length (src.drop k) [] v u fin HO.out
          have hgv := hgo.2 (by simp)
          have HLT := Lib.hid (oct_lt a p src.length 32 HZ.out (src.drop k) [] v u fin (by simp) (by simp) HO.out)
          have hrm : n + (octBytes v).length ≤ m := by
            have := HI.out.room hkN.out HO.out (fun h => (HF.out h).1) (by rw [HRR.out]; exact HRM.out)
            rw [HDL.out] at this
            exact this
          have HWc := Lib.hid (HW.out.below HW1.out)
          have HNX : Hid (∀ w', Wr32 g o t cur w (ds ++ octBytes v) w' → ∀ i6 i9 : Int, i6 = (n : Int) + ((octBytes v).length : Int) → (fin = false → i9 = (n : Int) + 5) → ORel a p src N m g o b off c t cur w (.slice A2 R2 C2) (.int .i64 i6) (.bool fin) (.int .i64 i9) w') := fun w' hw i6 i9 h6 h9 => orel_next HI.out hkN.out HN.out HDL.out HO.out HF.out hR2a hC2a hnk hrm hw i6 i9 h6 h9
          have hgd : wq.heap.size ≠ g := by obtain ⟨_, b1, _⟩ := HW.out; have := b1.lt; omega
          cases fin
          · as_aux_lemma =>
              have hvL := hgv.2 rfl
              obtain rfl : LI = 8 := by have := HLI.out; omega
              have HRR2 : Hid (k + 8 + R2 = N) := (HF.out rfl).2.1
              obtain ⟨x0, x1, x2, x3, x4, x5, x6, x7, rfl⟩ := list8 v hvL
              have hm5 : n + 5 ≤ m := hrm
              obtain rfl : od = o := HD.out (by omega)
              obtain ⟨cur1, B1, c1, q1, q2, G1⟩ := HWc.out
              have HB1 := Lib.hid B1
              have HC1 := Lib.hid c1
              have hfit1 : od + m ≤ cur1.length := by omega
              have HQ1 := Lib.hid q1
              have HQ2 := Lib.hid q2
              have HG1 := Lib.hid G1
              clear B1 c1 q1 q2 G1
              have RG0 : Hid (wc.grownBy wc (some g)) := grown_refl wc (some g)
              have l0 : x0 < 32 := HLT.out x0 (by simp)
              have l1 : x1 < 32 := HLT.out x1 (by simp)
              have l2 : x2 < 32 := HLT.out x2 (by simp)
              have l3 : x3 < 32 := HLT.out x3 (by simp)
              have l4 : x4 < 32 := HLT.out x4 (by simp)
              have l5 : x5 < 32 := HLT.out x5 (by simp)
              have l6 : x6 < 32 := HLT.out x6 (by simp)
              have l7 : x7 < 32 := HLT.out x7 (by simp)
              clear hvL hgo hgv
              obtain ⟨B4, hB4⟩ : ∃ B : Nat, B = x6 % 8 * 32 + x7 := ⟨_, rfl⟩
              have b4 : B4 < 256 := by omega
              have e4 : bits BinOp.or IntKind.u8 ((x6 : Int) * 32 % 256) (x7 : Int) = (B4 : Int) := by rw [hB4]; exact ob4 x6 x7 l6 l7
              have HE14 := Lib.hid hB4
              clear hB4
              have f6 : wc.cell? ⟨wq.heap.size, 6, none⟩ = some (.int .u8 (x6 : Int)) := HDB.out.cell 6
              have f7 : wc.cell? ⟨wq.heap.size, 7, none⟩ = some (.int .u8 (x7 : Int)) := HDB.out.cell 7
              obtain ⟨u94, g4⟩ : ∃ u, wc.cell? ⟨g, od + (n + 4), none⟩ = some u := ⟨_, (HB1.out.cell (od + (n + 4))).trans (List.getElem?_eq_getElem (by omega))⟩
              have z4 : wc.frozen? ⟨g, od + (n + 4), none⟩ = false := HB1.out.frozen _ (by omega)
              go_upto_region 37 with fail
              generalize hy4 : wc.setCell ⟨g, od + (n + 4), none⟩ (.int .u8 (B4 : Int)) = y4
              have YB4 : Hid (Blm y4 g t (cur1.set (od + (n + 4)) (.int .u8 (B4 : Int)))) := by have := HB1.out.set_ (od + (n + 4)) (.int .u8 (B4 : Int)); rw [hy4] at this; exact this
              have YD4 : Hid (Blk y4 wq.heap.size 70 (ocells [x0, x1, x2, x3, x4, x5, x6, x7])) := by have := HDB.out.far (p := ⟨g, od + (n + 4), none⟩) hgd (.int .u8 (B4 : Int)); rw [hy4] at this; exact this
              have YR4 : Hid (wc.grownBy y4 (some g)) := by have := grown_set RG0.out (od + (n + 4)) (.int .u8 (B4 : Int)); rw [hy4] at this; exact this
              clear hy4 g4 z4 e4 f6 f7
              obtain ⟨B3, hB3⟩ : ∃ B : Nat, B = x4 % 2 * 128 + x5 * 4 + x6 / 8 := ⟨_, rfl⟩
              have b3 : B3 < 256 := by omega
              have e3 : bits BinOp.or IntKind.u8 (bits BinOp.or IntKind.u8 ((x4 : Int) * 128 % 256) ((x5 : Int) * 4)) ((x6 : Int) / 8) = (B3 : Int) := by rw [hB3]; exact ob3 x4 x5 x6 l4 l5 l6
              have HE13 := Lib.hid hB3
              clear hB3
              have f4 : y4.cell? ⟨wq.heap.size, 4, none⟩ = some (.int .u8 (x4 : Int)) := YD4.out.cell 4
              have f5 : y4.cell? ⟨wq.heap.size, 5, none⟩ = some (.int .u8 (x5 : Int)) := YD4.out.cell 5
              have f6 : y4.cell? ⟨wq.heap.size, 6, none⟩ = some (.int .u8 (x6 : Int)) := YD4.out.cell 6
              obtain ⟨u93, g3⟩ : ∃ u, y4.cell? ⟨g, od + (n + 3), none⟩ = some u := ⟨_, (YB4.out.cell (od + (n + 3))).trans (List.getElem?_eq_getElem (by simp only [List.length_set]; omega))⟩
              have z3 : y4.frozen? ⟨g, od + (n + 3), none⟩ = false := YB4.out.frozen _ (by simp only [List.length_set]; omega)
              go_upto_region 39 with fail
              generalize hy3 : y4.setCell ⟨g, od + (n + 3), none⟩ (.int .u8 (B3 : Int)) = y3
              have YB3 : Hid (Blm y3 g t ((cur1.set (od + (n + 4)) (.int .u8 (B4 : Int))).set (od + (n + 3)) (.int .u8 (B3 : Int)))) := by have := YB4.out.set_ (od + (n + 3)) (.int .u8 (B3 : Int)); rw [hy3] at this; exact this
              have YD3 : Hid (Blk y3 wq.heap.size 70 (ocells [x0, x1, x2, x3, x4, x5, x6, x7])) := by have := YD4.out.far (p := ⟨g, od + (n + 3), none⟩) hgd (.int .u8 (B3 : Int)); rw [hy3] at this; exact this
              have YR3 : Hid (wc.grownBy y3 (some g)) := by have := grown_set YR4.out (od + (n + 3)) (.int .u8 (B3 : Int)); rw [hy3] at this; exact this
              clear hy3 g3 z3 e3 f4 f5 f6
              obtain ⟨B2, hB2⟩ : ∃ B : Nat, B = x3 % 16 * 16 + x4 / 2 := ⟨_, rfl⟩
              have b2 : B2 < 256 := by omega
              have e2 : bits BinOp.or IntKind.u8 ((x3 : Int) * 16 % 256) ((x4 : Int) / 2) = (B2 : Int) := by rw [hB2]; exact ob2 x3 x4 l3 l4
              have HE12 := Lib.hid hB2
              clear hB2
              have f3 : y3.cell? ⟨wq.heap.size, 3, none⟩ = some (.int .u8 (x3 : Int)) := YD3.out.cell 3
              have f4 : y3.cell? ⟨wq.heap.size, 4, none⟩ = some (.int .u8 (x4 : Int)) := YD3.out.cell 4
              obtain ⟨u92, g2⟩ : ∃ u, y3.cell? ⟨g, od + (n + 2), none⟩ = some u := ⟨_, (YB3.out.cell (od + (n + 2))).trans (List.getElem?_eq_getElem (by simp only [List.length_set]; omega))⟩
              have z2 : y3.frozen? ⟨g, od + (n + 2), none⟩ = false := YB3.out.frozen _ (by simp only [List.length_set]; omega)
              go_upto_region 41 with fail
              generalize hy2 : y3.setCell ⟨g, od + (n + 2), none⟩ (.int .u8 (B2 : Int)) = y2
              have YB2 : Hid (Blm y2 g t (((cur1.set (od + (n + 4)) (.int .u8 (B4 : Int))).set (od + (n + 3)) (.int .u8 (B3 : Int))).set (od + (n + 2)) (.int .u8 (B2 : Int)))) := by have := YB3.out.set_ (od + (n + 2)) (.int .u8 (B2 : Int)); rw [hy2] at this; exact this
              have YD2 : Hid (Blk y2 wq.heap.size 70 (ocells [x0, x1, x2, x3, x4, x5, x6, x7])) := by have := YD3.out.far (p := ⟨g, od + (n + 2), none⟩) hgd (.int .u8 (B2 : Int)); rw [hy2] at this; exact this
              have YR2 : Hid (wc.grownBy y2 (some g)) := by have := grown_set YR3.out (od + (n + 2)) (.int .u8 (B2 : Int)); rw [hy2] at this; exact this
              clear hy2 g2 z2 e2 f3 f4
              obtain ⟨B1, hB1⟩ : ∃ B : Nat, B = x1 % 4 * 64 + x2 * 2 + x3 / 16 := ⟨_, rfl⟩
              have b1 : B1 < 256 := by omega
              have e1 : bits BinOp.or IntKind.u8 (bits BinOp.or IntKind.u8 ((x1 : Int) * 64 % 256) ((x2 : Int) * 2)) ((x3 : Int) / 16) = (B1 : Int) := by rw [hB1]; exact ob1 x1 x2 x3 l1 l2 l3
              have HE11 := Lib.hid hB1
              clear hB1
              have f1 : y2.cell? ⟨wq.heap.size, 1, none⟩ = some (.int .u8 (x1 : Int)) := YD2.out.cell 1
              have f2 : y2.cell? ⟨wq.heap.size, 2, none⟩ = some (.int .u8 (x2 : Int)) := YD2.out.cell 2
              have f3 : y2.cell? ⟨wq.heap.size, 3, none⟩ = some (.int .u8 (x3 : Int)) := YD2.out.cell 3
              obtain ⟨u91, g1⟩ : ∃ u, y2.cell? ⟨g, od + (n + 1), none⟩ = some u := ⟨_, (YB2.out.cell (od + (n + 1))).trans (List.getElem?_eq_getElem (by simp only [List.length_set]; omega))⟩
              have z1 : y2.frozen? ⟨g, od + (n + 1), none⟩ = false := YB2.out.frozen _ (by simp only [List.length_set]; omega)
              go_upto_region 43 with fail
              generalize hy1 : y2.setCell ⟨g, od + (n + 1), none⟩ (.int .u8 (B1 : Int)) = y1
              have YB1 : Hid (Blm y1 g t ((((cur1.set (od + (n + 4)) (.int .u8 (B4 : Int))).set (od + (n + 3)) (.int .u8 (B3 : Int))).set (od + (n + 2)) (.int .u8 (B2 : Int))).set (od + (n + 1)) (.int .u8 (B1 : Int)))) := by have := YB2.out.set_ (od + (n + 1)) (.int .u8 (B1 : Int)); rw [hy1] at this; exact this
              have YD1 : Hid (Blk y1 wq.heap.size 70 (ocells [x0, x1, x2, x3, x4, x5, x6, x7])) := by have := YD2.out.far (p := ⟨g, od + (n + 1), none⟩) hgd (.int .u8 (B1 : Int)); rw [hy1] at this; exact this
              have YR1 : Hid (wc.grownBy y1 (some g)) := by have := grown_set YR2.out (od + (n + 1)) (.int .u8 (B1 : Int)); rw [hy1] at this; exact this
              clear hy1 g1 z1 e1 f1 f2 f3
              obtain ⟨B0, hB0⟩ : ∃ B : Nat, B = x0 * 8 + x1 / 4 := ⟨_, rfl⟩
              have b0 : B0 < 256 := by omega
              have e0 : bits BinOp.or IntKind.u8 ((x0 : Int) * 8) ((x1 : Int) / 4) = (B0 : Int) := by rw [hB0]; exact ob0 x0 x1 l0 l1
              have HE10 := Lib.hid hB0
              clear hB0
              have f0 : y1.cell? ⟨wq.heap.size, 0, none⟩ = some (.int .u8 (x0 : Int)) := YD1.out.cell 0
              have f1 : y1.cell? ⟨wq.heap.size, 1, none⟩ = some (.int .u8 (x1 : Int)) := YD1.out.cell 1
              obtain ⟨u90, g0⟩ : ∃ u, y1.cell? ⟨g, od + n, none⟩ = some u := ⟨_, (YB1.out.cell (od + n)).trans (List.getElem?_eq_getElem (by simp only [List.length_set]; omega))⟩
              have z0 : y1.frozen? ⟨g, od + n, none⟩ = false := YB1.out.frozen _ (by simp only [List.length_set]; omega)
              go_upto_region 45 with fail
              generalize hy0 : y1.setCell ⟨g, od + n, none⟩ (.int .u8 (B0 : Int)) = y0
              have YB0 : Hid (Blm y0 g t (((((cur1.set (od + (n + 4)) (.int .u8 (B4 : Int))).set (od + (n + 3)) (.int .u8 (B3 : Int))).set (od + (n + 2)) (.int .u8 (B2 : Int))).set (od + (n + 1)) (.int .u8 (B1 : Int))).set (od + n) (.int .u8 (B0 : Int)))) := by have := YB1.out.set_ (od + n) (.int .u8 (B0 : Int)); rw [hy0] at this; exact this
              have YD0 : Hid (Blk y0 wq.heap.size 70 (ocells [x0, x1, x2, x3, x4, x5, x6, x7])) := by have := YD1.out.far (p := ⟨g, od + n, none⟩) hgd (.int .u8 (B0 : Int)); rw [hy0] at this; exact this
              have YR0 : Hid (wc.grownBy y0 (some g)) := by have := grown_set YR1.out (od + n) (.int .u8 (B0 : Int)); rw [hy0] at this; exact this
              clear hy0 g0 z0 e0 f0 f1
              have HFS := Lib.hid (oset5 cur1 od n B0 B1 B2 B3 B4 (octBytes [x0, x1, x2, x3, x4, x5, x6, x7]) (by omega) (by rw [HE10.out, HE11.out, HE12.out, HE13.out, HE14.out]; rfl) b0 b1 b2 b3 b4)
              have HWF : Hid (Wr32 g od t cur w (ds ++ octBytes [x0, x1, x2, x3, x4, x5, x6, x7]) y0) := by
                have hdl := HDL.out
                refine Wr32.put HC1.out HQ1.out HQ2.out HG1.out YB0.out HFS.out.1 (fun j x hj => ?_) (fun i hi => ?_) YR0.out
                · rw [hdl]; exact HFS.out.2.1 j x hj
                · rw [hdl] at hi; exact HFS.out.2.2 i hi
              clear HFS YB0 YD0 YR0 YB1 YD1 YR1 YB2 YD2 YR2 YB3 YD3 YR3 YB4 YD4 YR4
              go_wp2
              go_roundw
              case rel => exact HNX.out _ HWF.out _ _ (by rw [show (octBytes [x0, x1, x2, x3, x4, x5, x6, x7]).length = 5 from rfl]; omega) (fun _ => rfl)
              case measure => have := HRR2.out; simp [lenOfV]; omega
          · have hv7 := oct_fin a p src.length (src.drop k) [] v u (by simp) HO.out
            rcases (by omega : v.length = 7 ∨ v.length = 5 ∨ v.length = 4 ∨ v.length = 2 ∨ v.length = 0 ∨ v.length = 1 ∨ v.length = 3 ∨ v.length = 6) with hvL | hvL | hvL | hvL | hvL | hvL | hvL | hvL
            · as_aux_lemma =>
                obtain rfl : LI = 7 := by have := HLI.out; omega
                obtain ⟨x0, x1, x2, x3, x4, x5, x6, rfl⟩ := list7 v hvL
                have hm5 : n + 4 ≤ m := hrm
                obtain rfl : od = o := HD.out (by omega)
                obtain ⟨cur1, B1, c1, q1, q2, G1⟩ := HWc.out
                have HB1 := Lib.hid B1
                have HC1 := Lib.hid c1
                have hfit1 : od + m ≤ cur1.length := by omega
                have HQ1 := Lib.hid q1
                have HQ2 := Lib.hid q2
                have HG1 := Lib.hid G1
                clear B1 c1 q1 q2 G1
                have RG0 : Hid (wc.grownBy wc (some g)) := grown_refl wc (some g)
                have l0 : x0 < 32 := HLT.out x0 (by simp)
                have l1 : x1 < 32 := HLT.out x1 (by simp)
                have l2 : x2 < 32 := HLT.out x2 (by simp)
                have l3 : x3 < 32 := HLT.out x3 (by simp)
                have l4 : x4 < 32 := HLT.out x4 (by simp)
                have l5 : x5 < 32 := HLT.out x5 (by simp)
                have l6 : x6 < 32 := HLT.out x6 (by simp)
                clear hvL hgo hgv
                obtain ⟨B3, hB3⟩ : ∃ B : Nat, B = x4 % 2 * 128 + x5 * 4 + x6 / 8 := ⟨_, rfl⟩
                have b3 : B3 < 256 := by omega
                have e3 : bits BinOp.or IntKind.u8 (bits BinOp.or IntKind.u8 ((x4 : Int) * 128 % 256) ((x5 : Int) * 4)) ((x6 : Int) / 8) = (B3 : Int) := by rw [hB3]; exact ob3 x4 x5 x6 l4 l5 l6
                have HE13 := Lib.hid hB3
                clear hB3
                have f4 : wc.cell? ⟨wq.heap.size, 4, none⟩ = some (.int .u8 (x4 : Int)) := HDB.out.cell 4
                have f5 : wc.cell? ⟨wq.heap.size, 5, none⟩ = some (.int .u8 (x5 : Int)) := HDB.out.cell 5
                have f6 : wc.cell? ⟨wq.heap.size, 6, none⟩ = some (.int .u8 (x6 : Int)) := HDB.out.cell 6
                obtain ⟨u93, g3⟩ : ∃ u, wc.cell? ⟨g, od + (n + 3), none⟩ = some u := ⟨_, (HB1.out.cell (od + (n + 3))).trans (List.getElem?_eq_getElem (by omega))⟩
                have z3 : wc.frozen? ⟨g, od + (n + 3), none⟩ = false := HB1.out.frozen _ (by omega)
                go_upto_region 39 with fail
                generalize hy3 : wc.setCell ⟨g, od + (n + 3), none⟩ (.int .u8 (B3 : Int)) = y3
                have YB3 : Hid (Blm y3 g t (cur1.set (od + (n + 3)) (.int .u8 (B3 : Int)))) := by have := HB1.out.set_ (od + (n + 3)) (.int .u8 (B3 : Int)); rw [hy3] at this; exact this
                have YD3 : Hid (Blk y3 wq.heap.size 70 (ocells [x0, x1, x2, x3, x4, x5, x6])) := by have := HDB.out.far (p := ⟨g, od + (n + 3), none⟩) hgd (.int .u8 (B3 : Int)); rw [hy3] at this; exact this
                have YR3 : Hid (wc.grownBy y3 (some g)) := by have := grown_set RG0.out (od + (n + 3)) (.int .u8 (B3 : Int)); rw [hy3] at this; exact this
                clear hy3 g3 z3 e3 f4 f5 f6
                obtain ⟨B2, hB2⟩ : ∃ B : Nat, B = x3 % 16 * 16 + x4 / 2 := ⟨_, rfl⟩
                have b2 : B2 < 256 := by omega
                have e2 : bits BinOp.or IntKind.u8 ((x3 : Int) * 16 % 256) ((x4 : Int) / 2) = (B2 : Int) := by rw [hB2]; exact ob2 x3 x4 l3 l4
                have HE12 := Lib.hid hB2
                clear hB2
                have f3 : y3.cell? ⟨wq.heap.size, 3, none⟩ = some (.int .u8 (x3 : Int)) := YD3.out.cell 3
                have f4 : y3.cell? ⟨wq.heap.size, 4, none⟩ = some (.int .u8 (x4 : Int)) := YD3.out.cell 4
                obtain ⟨u92, g2⟩ : ∃ u, y3.cell? ⟨g, od + (n + 2), none⟩ = some u := ⟨_, (YB3.out.cell (od + (n + 2))).trans (List.getElem?_eq_getElem (by simp only [List.length_set]; omega))⟩
                have z2 : y3.frozen? ⟨g, od + (n + 2), none⟩ = false := YB3.out.frozen _ (by simp only [List.length_set]; omega)
                go_upto_region 41 with fail
                generalize hy2 : y3.setCell ⟨g, od + (n + 2), none⟩ (.int .u8 (B2 : Int)) = y2
                have YB2 : Hid (Blm y2 g t ((cur1.set (od + (n + 3)) (.int .u8 (B3 : Int))).set (od + (n + 2)) (.int .u8 (B2 : Int)))) := by have := YB3.out.set_ (od + (n + 2)) (.int .u8 (B2 : Int)); rw [hy2] at this; exact this
                have YD2 : Hid (Blk y2 wq.heap.size 70 (ocells [x0, x1, x2, x3, x4, x5, x6])) := by have := YD3.out.far (p := ⟨g, od + (n + 2), none⟩) hgd (.int .u8 (B2 : Int)); rw [hy2] at this; exact this
                have YR2 : Hid (wc.grownBy y2 (some g)) := by have := grown_set YR3.out (od + (n + 2)) (.int .u8 (B2 : Int)); rw [hy2] at this; exact this
                clear hy2 g2 z2 e2 f3 f4
                obtain ⟨B1, hB1⟩ : ∃ B : Nat, B = x1 % 4 * 64 + x2 * 2 + x3 / 16 := ⟨_, rfl⟩
                have b1 : B1 < 256 := by omega
                have e1 : bits BinOp.or IntKind.u8 (bits BinOp.or IntKind.u8 ((x1 : Int) * 64 % 256) ((x2 : Int) * 2)) ((x3 : Int) / 16) = (B1 : Int) := by rw [hB1]; exact ob1 x1 x2 x3 l1 l2 l3
                have HE11 := Lib.hid hB1
                clear hB1
                have f1 : y2.cell? ⟨wq.heap.size, 1, none⟩ = some (.int .u8 (x1 : Int)) := YD2.out.cell 1
                have f2 : y2.cell? ⟨wq.heap.size, 2, none⟩ = some (.int .u8 (x2 : Int)) := YD2.out.cell 2
                have f3 : y2.cell? ⟨wq.heap.size, 3, none⟩ = some (.int .u8 (x3 : Int)) := YD2.out.cell 3
                obtain ⟨u91, g1⟩ : ∃ u, y2.cell? ⟨g, od + (n + 1), none⟩ = some u := ⟨_, (YB2.out.cell (od + (n + 1))).trans (List.getElem?_eq_getElem (by simp only [List.length_set]; omega))⟩
                have z1 : y2.frozen? ⟨g, od + (n + 1), none⟩ = false := YB2.out.frozen _ (by simp only [List.length_set]; omega)
                go_upto_region 43 with fail
                generalize hy1 : y2.setCell ⟨g, od + (n + 1), none⟩ (.int .u8 (B1 : Int)) = y1
                have YB1 : Hid (Blm y1 g t (((cur1.set (od + (n + 3)) (.int .u8 (B3 : Int))).set (od + (n + 2)) (.int .u8 (B2 : Int))).set (od + (n + 1)) (.int .u8 (B1 : Int)))) := by have := YB2.out.set_ (od + (n + 1)) (.int .u8 (B1 : Int)); rw [hy1] at this; exact this
                have YD1 : Hid (Blk y1 wq.heap.size 70 (ocells [x0, x1, x2, x3, x4, x5, x6])) := by have := YD2.out.far (p := ⟨g, od + (n + 1), none⟩) hgd (.int .u8 (B1 : Int)); rw [hy1] at this; exact this
                have YR1 : Hid (wc.grownBy y1 (some g)) := by have := grown_set YR2.out (od + (n + 1)) (.int .u8 (B1 : Int)); rw [hy1] at this; exact this
                clear hy1 g1 z1 e1 f1 f2 f3
                obtain ⟨B0, hB0⟩ : ∃ B : Nat, B = x0 * 8 + x1 / 4 := ⟨_, rfl⟩
                have b0 : B0 < 256 := by omega
                have e0 : bits BinOp.or IntKind.u8 ((x0 : Int) * 8) ((x1 : Int) / 4) = (B0 : Int) := by rw [hB0]; exact ob0 x0 x1 l0 l1
                have HE10 := Lib.hid hB0
                clear hB0
                have f0 : y1.cell? ⟨wq.heap.size, 0, none⟩ = some (.int .u8 (x0 : Int)) := YD1.out.cell 0
                have f1 : y1.cell? ⟨wq.heap.size, 1, none⟩ = some (.int .u8 (x1 : Int)) := YD1.out.cell 1
                obtain ⟨u90, g0⟩ : ∃ u, y1.cell? ⟨g, od + n, none⟩ = some u := ⟨_, (YB1.out.cell (od + n)).trans (List.getElem?_eq_getElem (by simp only [List.length_set]; omega))⟩
                have z0 : y1.frozen? ⟨g, od + n, none⟩ = false := YB1.out.frozen _ (by simp only [List.length_set]; omega)
                go_upto_region 45 with fail
                generalize hy0 : y1.setCell ⟨g, od + n, none⟩ (.int .u8 (B0 : Int)) = y0
                have YB0 : Hid (Blm y0 g t ((((cur1.set (od + (n + 3)) (.int .u8 (B3 : Int))).set (od + (n + 2)) (.int .u8 (B2 : Int))).set (od + (n + 1)) (.int .u8 (B1 : Int))).set (od + n) (.int .u8 (B0 : Int)))) := by have := YB1.out.set_ (od + n) (.int .u8 (B0 : Int)); rw [hy0] at this; exact this
                have YD0 : Hid (Blk y0 wq.heap.size 70 (ocells [x0, x1, x2, x3, x4, x5, x6])) := by have := YD1.out.far (p := ⟨g, od + n, none⟩) hgd (.int .u8 (B0 : Int)); rw [hy0] at this; exact this
                have YR0 : Hid (wc.grownBy y0 (some g)) := by have := grown_set YR1.out (od + n) (.int .u8 (B0 : Int)); rw [hy0] at this; exact this
                clear hy0 g0 z0 e0 f0 f1
                have HFS := Lib.hid (oset4 cur1 od n B0 B1 B2 B3 (octBytes [x0, x1, x2, x3, x4, x5, x6]) (by omega) (by rw [HE10.out, HE11.out, HE12.out, HE13.out]; rfl) b0 b1 b2 b3)
                have HWF : Hid (Wr32 g od t cur w (ds ++ octBytes [x0, x1, x2, x3, x4, x5, x6]) y0) := by
                  have hdl := HDL.out
                  refine Wr32.put HC1.out HQ1.out HQ2.out HG1.out YB0.out HFS.out.1 (fun j x hj => ?_) (fun i hi => ?_) YR0.out
                  · rw [hdl]; exact HFS.out.2.1 j x hj
                  · rw [hdl] at hi; exact HFS.out.2.2 i hi
                clear HFS YB0 YD0 YR0 YB1 YD1 YR1 YB2 YD2 YR2 YB3 YD3 YR3
                go_wp2
                go_roundw
                case rel => exact HNX.out _ HWF.out _ _ (by rw [show (octBytes [x0, x1, x2, x3, x4, x5, x6]).length = 4 from rfl]; omega) (fun h => by cases h)
                case measure => simp
            · as_aux_lemma =>
                obtain rfl : LI = 5 := by have := HLI.out; omega
                obtain ⟨x0, x1, x2, x3, x4, rfl⟩ := list5 v hvL
                have hm5 : n + 3 ≤ m := hrm
                obtain rfl : od = o := HD.out (by omega)
                obtain ⟨cur1, B1, c1, q1, q2, G1⟩ := HWc.out
                have HB1 := Lib.hid B1
                have HC1 := Lib.hid c1
                have hfit1 : od + m ≤ cur1.length := by omega
                have HQ1 := Lib.hid q1
                have HQ2 := Lib.hid q2
                have HG1 := Lib.hid G1
                clear B1 c1 q1 q2 G1
                have RG0 : Hid (wc.grownBy wc (some g)) := grown_refl wc (some g)
                have l0 : x0 < 32 := HLT.out x0 (by simp)
                have l1 : x1 < 32 := HLT.out x1 (by simp)
                have l2 : x2 < 32 := HLT.out x2 (by simp)
                have l3 : x3 < 32 := HLT.out x3 (by simp)
                have l4 : x4 < 32 := HLT.out x4 (by simp)
                clear hvL hgo hgv
                obtain ⟨B2, hB2⟩ : ∃ B : Nat, B = x3 % 16 * 16 + x4 / 2 := ⟨_, rfl⟩
                have b2 : B2 < 256 := by omega
                have e2 : bits BinOp.or IntKind.u8 ((x3 : Int) * 16 % 256) ((x4 : Int) / 2) = (B2 : Int) := by rw [hB2]; exact ob2 x3 x4 l3 l4
                have HE12 := Lib.hid hB2
                clear hB2
                have f3 : wc.cell? ⟨wq.heap.size, 3, none⟩ = some (.int .u8 (x3 : Int)) := HDB.out.cell 3
                have f4 : wc.cell? ⟨wq.heap.size, 4, none⟩ = some (.int .u8 (x4 : Int)) := HDB.out.cell 4
                obtain ⟨u92, g2⟩ : ∃ u, wc.cell? ⟨g, od + (n + 2), none⟩ = some u := ⟨_, (HB1.out.cell (od + (n + 2))).trans (List.getElem?_eq_getElem (by omega))⟩
                have z2 : wc.frozen? ⟨g, od + (n + 2), none⟩ = false := HB1.out.frozen _ (by omega)
                go_upto_region 41 with fail
                generalize hy2 : wc.setCell ⟨g, od + (n + 2), none⟩ (.int .u8 (B2 : Int)) = y2
                have YB2 : Hid (Blm y2 g t (cur1.set (od + (n + 2)) (.int .u8 (B2 : Int)))) := by have := HB1.out.set_ (od + (n + 2)) (.int .u8 (B2 : Int)); rw [hy2] at this; exact this
                have YD2 : Hid (Blk y2 wq.heap.size 70 (ocells [x0, x1, x2, x3, x4])) := by have := HDB.out.far (p := ⟨g, od + (n + 2), none⟩) hgd (.int .u8 (B2 : Int)); rw [hy2] at this; exact this
                have YR2 : Hid (wc.grownBy y2 (some g)) := by have := grown_set RG0.out (od + (n + 2)) (.int .u8 (B2 : Int)); rw [hy2] at this; exact this
                clear hy2 g2 z2 e2 f3 f4
                obtain ⟨B1, hB1⟩ : ∃ B : Nat, B = x1 % 4 * 64 + x2 * 2 + x3 / 16 := ⟨_, rfl⟩
                have b1 : B1 < 256 := by omega
                have e1 : bits BinOp.or IntKind.u8 (bits BinOp.or IntKind.u8 ((x1 : Int) * 64 % 256) ((x2 : Int) * 2)) ((x3 : Int) / 16) = (B1 : Int) := by rw [hB1]; exact ob1 x1 x2 x3 l1 l2 l3
                have HE11 := Lib.hid hB1
                clear hB1
                have f1 : y2.cell? ⟨wq.heap.size, 1, none⟩ = some (.int .u8 (x1 : Int)) := YD2.out.cell 1
                have f2 : y2.cell? ⟨wq.heap.size, 2, none⟩ = some (.int .u8 (x2 : Int)) := YD2.out.cell 2
                have f3 : y2.cell? ⟨wq.heap.size, 3, none⟩ = some (.int .u8 (x3 : Int)) := YD2.out.cell 3
                obtain ⟨u91, g1⟩ : ∃ u, y2.cell? ⟨g, od + (n + 1), none⟩ = some u := ⟨_, (YB2.out.cell (od + (n + 1))).trans (List.getElem?_eq_getElem (by simp only [List.length_set]; omega))⟩
                have z1 : y2.frozen? ⟨g, od + (n + 1), none⟩ = false := YB2.out.frozen _ (by simp only [List.length_set]; omega)
                go_upto_region 43 with fail
                generalize hy1 : y2.setCell ⟨g, od + (n + 1), none⟩ (.int .u8 (B1 : Int)) = y1
                have YB1 : Hid (Blm y1 g t ((cur1.set (od + (n + 2)) (.int .u8 (B2 : Int))).set (od + (n + 1)) (.int .u8 (B1 : Int)))) := by have := YB2.out.set_ (od + (n + 1)) (.int .u8 (B1 : Int)); rw [hy1] at this; exact this
                have YD1 : Hid (Blk y1 wq.heap.size 70 (ocells [x0, x1, x2, x3, x4])) := by have := YD2.out.far (p := ⟨g, od + (n + 1), none⟩) hgd (.int .u8 (B1 : Int)); rw [hy1] at this; exact this
                have YR1 : Hid (wc.grownBy y1 (some g)) := by have := grown_set YR2.out (od + (n + 1)) (.int .u8 (B1 : Int)); rw [hy1] at this; exact this
                clear hy1 g1 z1 e1 f1 f2 f3
                obtain ⟨B0, hB0⟩ : ∃ B : Nat, B = x0 * 8 + x1 / 4 := ⟨_, rfl⟩
                have b0 : B0 < 256 := by omega
                have e0 : bits BinOp.or IntKind.u8 ((x0 : Int) * 8) ((x1 : Int) / 4) = (B0 : Int) := by rw [hB0]; exact ob0 x0 x1 l0 l1
                have HE10 := Lib.hid hB0
                clear hB0
                have f0 : y1.cell? ⟨wq.heap.size, 0, none⟩ = some (.int .u8 (x0 : Int)) := YD1.out.cell 0
                have f1 : y1.cell? ⟨wq.heap.size, 1, none⟩ = some (.int .u8 (x1 : Int)) := YD1.out.cell 1
                obtain ⟨u90, g0⟩ : ∃ u, y1.cell? ⟨g, od + n, none⟩ = some u := ⟨_, (YB1.out.cell (od + n)).trans (List.getElem?_eq_getElem (by simp only [List.length_set]; omega))⟩
                have z0 : y1.frozen? ⟨g, od + n, none⟩ = false := YB1.out.frozen _ (by simp only [List.length_set]; omega)
                go_upto_region 45 with fail
                generalize hy0 : y1.setCell ⟨g, od + n, none⟩ (.int .u8 (B0 : Int)) = y0
                have YB0 : Hid (Blm y0 g t (((cur1.set (od + (n + 2)) (.int .u8 (B2 : Int))).set (od + (n + 1)) (.int .u8 (B1 : Int))).set (od + n) (.int .u8 (B0 : Int)))) := by have := YB1.out.set_ (od + n) (.int .u8 (B0 : Int)); rw [hy0] at this; exact this
                have YD0 : Hid (Blk y0 wq.heap.size 70 (ocells [x0, x1, x2, x3, x4])) := by have := YD1.out.far (p := ⟨g, od + n, none⟩) hgd (.int .u8 (B0 : Int)); rw [hy0] at this; exact this
                have YR0 : Hid (wc.grownBy y0 (some g)) := by have := grown_set YR1.out (od + n) (.int .u8 (B0 : Int)); rw [hy0] at this; exact this
                clear hy0 g0 z0 e0 f0 f1
                have HFS := Lib.hid (oset3 cur1 od n B0 B1 B2 (octBytes [x0, x1, x2, x3, x4]) (by omega) (by rw [HE10.out, HE11.out, HE12.out]; rfl) b0 b1 b2)
                have HWF : Hid (Wr32 g od t cur w (ds ++ octBytes [x0, x1, x2, x3, x4]) y0) := by
                  have hdl := HDL.out
                  refine Wr32.put HC1.out HQ1.out HQ2.out HG1.out YB0.out HFS.out.1 (fun j x hj => ?_) (fun i hi => ?_) YR0.out
                  · rw [hdl]; exact HFS.out.2.1 j x hj
                  · rw [hdl] at hi; exact HFS.out.2.2 i hi
                clear HFS YB0 YD0 YR0 YB1 YD1 YR1 YB2 YD2 YR2
                go_wp2
                go_roundw
                case rel => exact HNX.out _ HWF.out _ _ (by rw [show (octBytes [x0, x1, x2, x3, x4]).length = 3 from rfl]; omega) (fun h => by cases h)
                case measure => simp
            · as_aux_lemma =>
                obtain rfl : LI = 4 := by have := HLI.out; omega
                obtain ⟨x0, x1, x2, x3, rfl⟩ := list4 v hvL
                have hm5 : n + 2 ≤ m := hrm
                obtain rfl : od = o := HD.out (by omega)
                obtain ⟨cur1, B1, c1, q1, q2, G1⟩ := HWc.out
                have HB1 := Lib.hid B1
                have HC1 := Lib.hid c1
                have hfit1 : od + m ≤ cur1.length := by omega
                have HQ1 := Lib.hid q1
                have HQ2 := Lib.hid q2
                have HG1 := Lib.hid G1
                clear B1 c1 q1 q2 G1
                have RG0 : Hid (wc.grownBy wc (some g)) := grown_refl wc (some g)
                have l0 : x0 < 32 := HLT.out x0 (by simp)
                have l1 : x1 < 32 := HLT.out x1 (by simp)
                have l2 : x2 < 32 := HLT.out x2 (by simp)
                have l3 : x3 < 32 := HLT.out x3 (by simp)
                clear hvL hgo hgv
                obtain ⟨B1, hB1⟩ : ∃ B : Nat, B = x1 % 4 * 64 + x2 * 2 + x3 / 16 := ⟨_, rfl⟩
                have b1 : B1 < 256 := by omega
                have e1 : bits BinOp.or IntKind.u8 (bits BinOp.or IntKind.u8 ((x1 : Int) * 64 % 256) ((x2 : Int) * 2)) ((x3 : Int) / 16) = (B1 : Int) := by rw [hB1]; exact ob1 x1 x2 x3 l1 l2 l3
                have HE11 := Lib.hid hB1
                clear hB1
                have f1 : wc.cell? ⟨wq.heap.size, 1, none⟩ = some (.int .u8 (x1 : Int)) := HDB.out.cell 1
                have f2 : wc.cell? ⟨wq.heap.size, 2, none⟩ = some (.int .u8 (x2 : Int)) := HDB.out.cell 2
                have f3 : wc.cell? ⟨wq.heap.size, 3, none⟩ = some (.int .u8 (x3 : Int)) := HDB.out.cell 3
                obtain ⟨u91, g1⟩ : ∃ u, wc.cell? ⟨g, od + (n + 1), none⟩ = some u := ⟨_, (HB1.out.cell (od + (n + 1))).trans (List.getElem?_eq_getElem (by omega))⟩
                have z1 : wc.frozen? ⟨g, od + (n + 1), none⟩ = false := HB1.out.frozen _ (by omega)
                go_upto_region 43 with fail
                generalize hy1 : wc.setCell ⟨g, od + (n + 1), none⟩ (.int .u8 (B1 : Int)) = y1
                have YB1 : Hid (Blm y1 g t (cur1.set (od + (n + 1)) (.int .u8 (B1 : Int)))) := by have := HB1.out.set_ (od + (n + 1)) (.int .u8 (B1 : Int)); rw [hy1] at this; exact this
                have YD1 : Hid (Blk y1 wq.heap.size 70 (ocells [x0, x1, x2, x3])) := by have := HDB.out.far (p := ⟨g, od + (n + 1), none⟩) hgd (.int .u8 (B1 : Int)); rw [hy1] at this; exact this
                have YR1 : Hid (wc.grownBy y1 (some g)) := by have := grown_set RG0.out (od + (n + 1)) (.int .u8 (B1 : Int)); rw [hy1] at this; exact this
                clear hy1 g1 z1 e1 f1 f2 f3
                obtain ⟨B0, hB0⟩ : ∃ B : Nat, B = x0 * 8 + x1 / 4 := ⟨_, rfl⟩
                have b0 : B0 < 256 := by omega
                have e0 : bits BinOp.or IntKind.u8 ((x0 : Int) * 8) ((x1 : Int) / 4) = (B0 : Int) := by rw [hB0]; exact ob0 x0 x1 l0 l1
                have HE10 := Lib.hid hB0
                clear hB0
                have f0 : y1.cell? ⟨wq.heap.size, 0, none⟩ = some (.int .u8 (x0 : Int)) := YD1.out.cell 0
                have f1 : y1.cell? ⟨wq.heap.size, 1, none⟩ = some (.int .u8 (x1 : Int)) := YD1.out.cell 1
                obtain ⟨u90, g0⟩ : ∃ u, y1.cell? ⟨g, od + n, none⟩ = some u := ⟨_, (YB1.out.cell (od + n)).trans (List.getElem?_eq_getElem (by simp only [List.length_set]; omega))⟩
                have z0 : y1.frozen? ⟨g, od + n, none⟩ = false := YB1.out.frozen _ (by simp only [List.length_set]; omega)
                go_upto_region 45 with fail
                generalize hy0 : y1.setCell ⟨g, od + n, none⟩ (.int .u8 (B0 : Int)) = y0
                have YB0 : Hid (Blm y0 g t ((cur1.set (od + (n + 1)) (.int .u8 (B1 : Int))).set (od + n) (.int .u8 (B0 : Int)))) := by have := YB1.out.set_ (od + n) (.int .u8 (B0 : Int)); rw [hy0] at this; exact this
                have YD0 : Hid (Blk y0 wq.heap.size 70 (ocells [x0, x1, x2, x3])) := by have := YD1.out.far (p := ⟨g, od + n, none⟩) hgd (.int .u8 (B0 : Int)); rw [hy0] at this; exact this
                have YR0 : Hid (wc.grownBy y0 (some g)) := by have := grown_set YR1.out (od + n) (.int .u8 (B0 : Int)); rw [hy0] at this; exact this
                clear hy0 g0 z0 e0 f0 f1
                have HFS := Lib.hid (oset2 cur1 od n B0 B1 (octBytes [x0, x1, x2, x3]) (by omega) (by rw [HE10.out, HE11.out]; rfl) b0 b1)
                have HWF : Hid (Wr32 g od t cur w (ds ++ octBytes [x0, x1, x2, x3]) y0) := by
                  have hdl := HDL.out
                  refine Wr32.put HC1.out HQ1.out HQ2.out HG1.out YB0.out HFS.out.1 (fun j x hj => ?_) (fun i hi => ?_) YR0.out
                  · rw [hdl]; exact HFS.out.2.1 j x hj
                  · rw [hdl] at hi; exact HFS.out.2.2 i hi
                clear HFS YB0 YD0 YR0 YB1 YD1 YR1
                go_wp2
                go_roundw
                case rel => exact HNX.out _ HWF.out _ _ (by rw [show (octBytes [x0, x1, x2, x3]).length = 2 from rfl]; omega) (fun h => by cases h)
                case measure => simp
            · as_aux_lemma =>
                obtain rfl : LI = 2 := by have := HLI.out; omega
                obtain ⟨x0, x1, rfl⟩ := list2 v hvL
                have hm5 : n + 1 ≤ m := hrm
                obtain rfl : od = o := HD.out (by omega)
                obtain ⟨cur1, B1, c1, q1, q2, G1⟩ := HWc.out
                have HB1 := Lib.hid B1
                have HC1 := Lib.hid c1
                have hfit1 : od + m ≤ cur1.length := by omega
                have HQ1 := Lib.hid q1
                have HQ2 := Lib.hid q2
                have HG1 := Lib.hid G1
                clear B1 c1 q1 q2 G1
                have RG0 : Hid (wc.grownBy wc (some g)) := grown_refl wc (some g)
                have l0 : x0 < 32 := HLT.out x0 (by simp)
                have l1 : x1 < 32 := HLT.out x1 (by simp)
                clear hvL hgo hgv
                obtain ⟨B0, hB0⟩ : ∃ B : Nat, B = x0 * 8 + x1 / 4 := ⟨_, rfl⟩
                have b0 : B0 < 256 := by omega
                have e0 : bits BinOp.or IntKind.u8 ((x0 : Int) * 8) ((x1 : Int) / 4) = (B0 : Int) := by rw [hB0]; exact ob0 x0 x1 l0 l1
                have HE10 := Lib.hid hB0
                clear hB0
                have f0 : wc.cell? ⟨wq.heap.size, 0, none⟩ = some (.int .u8 (x0 : Int)) := HDB.out.cell 0
                have f1 : wc.cell? ⟨wq.heap.size, 1, none⟩ = some (.int .u8 (x1 : Int)) := HDB.out.cell 1
                obtain ⟨u90, g0⟩ : ∃ u, wc.cell? ⟨g, od + n, none⟩ = some u := ⟨_, (HB1.out.cell (od + n)).trans (List.getElem?_eq_getElem (by omega))⟩
                have z0 : wc.frozen? ⟨g, od + n, none⟩ = false := HB1.out.frozen _ (by omega)
                go_upto_region 45 with fail
                generalize hy0 : wc.setCell ⟨g, od + n, none⟩ (.int .u8 (B0 : Int)) = y0
                have YB0 : Hid (Blm y0 g t (cur1.set (od + n) (.int .u8 (B0 : Int)))) := by have := HB1.out.set_ (od + n) (.int .u8 (B0 : Int)); rw [hy0] at this; exact this
                have YD0 : Hid (Blk y0 wq.heap.size 70 (ocells [x0, x1])) := by have := HDB.out.far (p := ⟨g, od + n, none⟩) hgd (.int .u8 (B0 : Int)); rw [hy0] at this; exact this
                have YR0 : Hid (wc.grownBy y0 (some g)) := by have := grown_set RG0.out (od + n) (.int .u8 (B0 : Int)); rw [hy0] at this; exact this
                clear hy0 g0 z0 e0 f0 f1
                have HFS := Lib.hid (oset1 cur1 od n B0 (octBytes [x0, x1]) (by omega) (by rw [HE10.out]; rfl) b0)
                have HWF : Hid (Wr32 g od t cur w (ds ++ octBytes [x0, x1]) y0) := by
                  have hdl := HDL.out
                  refine Wr32.put HC1.out HQ1.out HQ2.out HG1.out YB0.out HFS.out.1 (fun j x hj => ?_) (fun i hi => ?_) YR0.out
                  · rw [hdl]; exact HFS.out.2.1 j x hj
                  · rw [hdl] at hi; exact HFS.out.2.2 i hi
                clear HFS YB0 YD0 YR0
                go_wp2
                go_roundw
                case rel => exact HNX.out _ HWF.out _ _ (by rw [show (octBytes [x0, x1]).length = 1 from rfl]; omega) (fun h => by cases h)
                case measure => simp
            · as_aux_lemma =>
                obtain rfl : LI = 0 := by have := HLI.out; omega
                obtain rfl := list0 v hvL
                clear hvL hgo hgv
                go_wp2
                go_roundw
                case rel => exact HNX.out _ (by rw [show octBytes [] = [] from rfl, List.append_nil]; exact HWc.out) _ _ (by rw [show octBytes [] = [] from rfl]; simp) (fun h => by cases h)
                case measure => simp
            · as_aux_lemma =>
                obtain rfl : LI = 1 := by have := HLI.out; omega
                obtain ⟨x0, rfl⟩ := list1 v hvL
                clear hvL hgo hgv
                go_wp2
                go_roundw
                case rel => exact HNX.out _ (by rw [show octBytes [x0] = [] from rfl, List.append_nil]; exact HWc.out) _ _ (by rw [show octBytes [x0] = [] from rfl]; simp) (fun h => by cases h)
                case measure => simp
            · as_aux_lemma =>
                obtain rfl : LI = 3 := by have := HLI.out; omega
                obtain ⟨x0, x1, x2, rfl⟩ := list3 v hvL
                clear hvL hgo hgv
                go_wp2
                go_roundw
                case rel => exact HNX.out _ (by rw [show octBytes [x0, x1, x2] = [] from rfl, List.append_nil]; exact HWc.out) _ _ (by rw [show octBytes [x0, x1, x2] = [] from rfl]; simp) (fun h => by cases h)
                case measure => simp
            · as_aux_lemma =>
                obtain rfl : LI = 6 := by have := HLI.out; omega
                obtain ⟨x0, x1, x2, x3, x4, x5, rfl⟩ := list6 v hvL
                clear hvL hgo hgv
                go_wp2
                go_roundw
                case rel => exact HNX.out _ (by rw [show octBytes [x0, x1, x2, x3, x4, x5] = [] from rfl, List.append_nil]; exact HWc.out) _ _ (by rw [show octBytes [x0, x1, x2, x3, x4, x5] = [] from rfl]; simp) (fun h => by cases h)
                case measure => simp
      · have hd : decide (0 < R) = false := by simpa using hqN
        go_wp2
        go_ret3
        exact opost_mk (by rw [← HRR.out]; exact HI.out.done (by rw [← HN.out]; omega)) HW.out _ _ _ (by rw [HDL.out]) rfl
    · go_wp2
      all_goals go_ret3
      all_goals exact opost_mk (by rw [← HRR.out]; exact HI.out) HW.out _ _ _ (by rw [HDL.out]) rfl

end Go.Proofs.Ytkiipbpcaakkoaa
