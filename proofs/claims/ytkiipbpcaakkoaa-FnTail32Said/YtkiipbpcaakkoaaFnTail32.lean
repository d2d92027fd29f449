/-
  The statement Rows.FnTail32Said of the law FnTail32, for every input. Conditions: none beyond the statement's own.
-/
import Derived.Test.YtkiipbpcaakkoaaRows
import Derived.Test.YtkiipbpcaakkoaaLawsK6
import Derived.Test.YtkiipbpcaakkoaaOpenY
import Derived.WalkKit
import Derived.ProofKit
import Derived.OpenShut
import Derived.ShutString
import Derived.ChangeOld
import Derived.Below
import Derived.SizedLaws
namespace Go.Proofs.Ytkiipbpcaakkoaa.fnTail32
open Go.ChangeShapes Go.WideShapes Go.ChangeAt Go.RowKit
open Go.ChangeMaps (open_string shut_string)
set_option linter.unusedVariables false

theorem own : ownKnob Try.prog.godebug = none := by kernel_rfl
theorem bytes1 : Try.prog.bytesOf 5 = 1 := by kernel_rfl
theorem laidOut : laidOutB Try.prog = true := by kernel_rfl

theorem contract (H : Type) (enc : TypeId × Value → H) (W : World) (base : Nat) (args : Array Value) (ds gs : List (DataW H)) (before : List MemPlace)
    (hval : ∀ (j : Nat) t v, Try.f4.params[j]? = some t → args[j]? = some v → Value.okWide Try.prog W .any base t v)
    (hW : DataW.Whole enc Try.prog Try.f4.params.toList Rows.fnTail32Spec.vars false W args.toList ds gs before) (hsz : (DataW.weightsEach Try.prog (Try.f4.params.toList ++ Rows.fnTail32Spec.plain.varTypes Try.prog) (ds ++ gs)).all (· ≤ reachBytes) = true) :
    Calls Try.prog 4 args W fun e W' => ∃ v, e = .returned v ∧ Rows.fnTail32Spec.post enc Try.prog Try.f4 false true false false W args v W' := by
  have hW' := hW
  obtain ⟨p, q, hA0, hV, rfl, hfz, hnd⟩ := hW
  have hA : DataW.TrodAll enc Try.prog W 0 (fun _ => true) true Try.f4.params.toList args.toList ds p := hA0
  rw [Try.params4] at hA hval
  obtain ⟨v0, vs0, d0, ds0, p0, q0, hargs, rfl, rfl, h0, r0⟩ := trodAll_cons hA
  obtain ⟨v1, vs1, d1, ds1, p1, q1, rfl, rfl, rfl, h1, r1⟩ := trodAll_cons r0
  obtain ⟨v2, vs2, d2, ds2, p2, q2, rfl, rfl, rfl, h2, r2⟩ := trodAll_cons r1
  obtain ⟨v3, vs3, d3, ds3, p3, q3, rfl, rfl, rfl, h3, r3⟩ := trodAll_cons r2
  obtain ⟨rfl, rfl, rfl⟩ := trodAll_nil r3
  obtain rfl : args = #[v0, v1, v2, v3] := by cases args; simp_all
  obtain ⟨rfl, rfl⟩ := trodVars_none hV
  have hsz' := hsz
  rw [Try.params4] at hsz'
  obtain ⟨a0, rfl, rfl, rfl, w0⟩ := open_string Try.underlying9 (hval 0 9 v0 rfl rfl) h0
  have b0 : a0.size ≤ 140737488351232 := by
    have e : a0.data.toList.length = a0.size := by rw [Array.length_toList]; rfl
    have := sized_string hsz' (j := 0) (t := 9) rfl rfl
    simp only [reachBytes] at this; omega
  obtain ⟨a1, rfl, rfl, rfl, w1⟩ := open_int Try.underlying2 (hval 1 2 v1 rfl rfl) h1
  have k2 := h2
  have lt2 : ∀ x ∈ p2, x.block < W.heap.size := by obtain ⟨m, hm⟩ := k2; exact DataW.trod_lt m _ _ _ hm
  obtain ⟨l2, y2, el2, sp2, n2⟩ := bys_open (hval 2 22 v2 rfl rfl) h2 Try.underlying22 Try.underlying5 (by kernel_rfl)
  have b2 : l2.length ≤ 140737488351232 := by
    rcases n2 with ⟨hd, hl⟩ | ⟨_, rfl⟩
    · have h := sized_slice hsz' (j := 2) (t := 22) (e := 5) rfl (by rw [hd]; rfl) Try.underlying22
      rw [bytes1, Nat.mul_one] at h
      simp only [reachBytes] at h
      omega
    · exact Nat.zero_le _
  have k3 := h3
  have lt3 : ∀ x ∈ p3, x.block < W.heap.size := by obtain ⟨m, hm⟩ := k3; exact DataW.trod_lt m _ _ _ hm
  obtain ⟨l3, y3, el3, sp3, n3⟩ := bys_open (hval 3 22 v3 rfl rfl) h3 Try.underlying22 Try.underlying5 (by kernel_rfl)
  have b3 : l3.length ≤ 140737488351232 := by
    rcases n3 with ⟨hd, hl⟩ | ⟨_, rfl⟩
    · have h := sized_slice hsz' (j := 3) (t := 22) (e := 5) rfl (by rw [hd]; rfl) Try.underlying22
      rw [bytes1, Nat.mul_one] at h
      simp only [reachBytes] at h
      omega
    · exact Nat.zero_le _
  clear hA0
  refine (law_FnTail32 a0 a1 v2 l2 v3 l3 W b0 w1 y2 b2 y3 b3).mono fun e W' ⟨he, bel⟩ => ?_
  subst he
  exact ⟨_, rfl, _, _, _, [], _, [], hW', trodAll_mk1 (shut_bool Try.underlying4 _), (trodAll_cons_mk (shut_string Try.underlying9 w0) (trodAll_cons_mk (shut_int Try.underlying2 w1) (trodAll_cons_mk (Below.trod laidOut (by kernel_rfl) (of_decide_eq_true (by kernel_rfl)) k2 bel lt2) (trodAll_cons_mk (Below.trod laidOut (by kernel_rfl) (of_decide_eq_true (by kernel_rfl)) k3 bel lt3) trodAll_mk0)))), rfl, bel.frame _, fun h => by cases h⟩

set_option maxRecDepth 100000 in
theorem lifted (os : Os) (started : os.Started) (H : Type) (enc : TypeId × Value → H) :
    ReturnsInHanded {} Try.checked os 4 .any (Rows.fnTail32Spec.pre6 enc Try.prog Try.f4 Rows.fnTail32Row.domain false) (Rows.fnTail32Spec.post enc Try.prog Try.f4 false true false false) := by
  refine returnsInHanded_of_change_sized (C := Try.checked) own started (by kernel_rfl) Try.func4
    (ChangeSpec.witness6 (enc := enc) (C := Try.checked) false ⟨#[], #[.string ByteArray.empty, .int .i64 0, .slice none 0 0, .slice none 0 0], []⟩ 8 (by kernel_rfl) (by kernel_rfl) (by kernel_rfl) (by kernel_rfl)) ?_
  intro W base args ds gs before hval hW _ hsz _
  exact contract H enc W base args ds gs before hval hW hsz

theorem proved : Rows.FnTail32Said :=
  OpenClaim.holds_of_wide 4 Try.f4 rfl rfl rfl rfl rfl rfl rfl ⟨rfl, rfl, rfl, rfl, rfl⟩ rfl rfl rfl rfl rfl (by kernel_rfl) Try.func4 (by kernel_rfl)
    (of_decide_eq_true (by kernel_rfl)) (by unfold Func.isWrapper; first | (rw [if_pos (by decide +kernel)]; kernel_rfl) | (rw [if_neg (by decide +kernel)]; exact ⟨rfl, rfl⟩))
    (fun os started H enc _ => lifted os started H enc)

end Go.Proofs.Ytkiipbpcaakkoaa.fnTail32
