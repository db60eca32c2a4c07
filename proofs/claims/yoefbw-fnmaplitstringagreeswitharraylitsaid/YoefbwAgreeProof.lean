/-
  Seat oefb. 'Rows.FnMapLitStringAgreesWithArrayLitSaid' proved: the row over the walk.
-/
import Derived.Test.YoefbwRows
import Derived.Test.YoefbwAgree
import Derived.Test.YoefbwFrame
import Derived.ProofKit
import Derived.ShutString
import Derived.ChangeOld
import Derived.Below
namespace Go.Proofs.Yoefbw.agreeProof
open Go.ChangeShapes Go.WideShapes Go.ChangeAt Go.RowKit
set_option linter.unusedVariables false

set_option maxRecDepth 100000 in
theorem lifted (os : Os) (started : os.Started) (H : Type) (enc : TypeId × Value → H) :
    ReturnsInHanded {} Efbg.checked os 4 .any (Rows.fnMapLitStringAgreesWithArrayLitSpec.pre6 enc Efbg.prog Efbg.f4 Rows.fnMapLitStringAgreesWithArrayLitRow.domain false) (Rows.fnMapLitStringAgreesWithArrayLitSpec.post enc Efbg.prog Efbg.f4 false true false false) := by
  refine returnsInHanded_of_change (C := Efbg.checked) Efbg.own started (by kernel_rfl) Efbg.func4
    (ChangeSpec.witness6 (enc := enc) (C := Efbg.checked) false ⟨#[], #[.slice none 0 0, .slice none 0 0], []⟩ 8 (by kernel_rfl) (by kernel_rfl) (by kernel_rfl) (by kernel_rfl)) ?_
  intro W base args ds gs before hval0 hW hcnd _
  have hval : ∀ (j : Nat) t v, Efbg.f4.params[j]? = some t → args[j]? = some v → Value.okWide Efbg.prog W .any base t v := hval0
  have hW' := hW
  obtain ⟨p, q, hA0, hV, rfl, hfz, hnd⟩ := hW
  have hA : DataW.TrodAll enc Efbg.prog W 0 (fun _ => true) true Efbg.f4.params.toList args.toList ds p := hA0
  rw [Efbg.params4] at hA hval
  obtain ⟨v0, vs0, d0, ds0, p0, q0, hargs, rfl, rfl, h0, r0⟩ := trodAll_cons hA
  obtain ⟨v1, vs1, d1, ds1, p1, q1, rfl, rfl, rfl, h1, r1⟩ := trodAll_cons r0
  obtain ⟨rfl, rfl, rfl⟩ := trodAll_nil r1
  obtain rfl : args = #[v0, v1] := by cases args; simp_all
  obtain ⟨rfl, rfl⟩ := trodVars_none hV
  obtain ⟨a0, len0, cap0, rfl⟩ := okWide_slice Efbg.underlying22 (hval 0 22 v0 rfl rfl)
  obtain ⟨a1, len1, cap1, rfl⟩ := okWide_slice Efbg.underlying22 (hval 1 22 v1 rfl rfl)
  have k0 := h0
  have k1 := h1
  have lt0 : ∀ x ∈ p0, x.block < W.heap.size := by obtain ⟨m, hm⟩ := k0; exact DataW.trod_lt m _ _ _ hm
  have lt1 : ∀ x ∈ p1, x.block < W.heap.size := by obtain ⟨m, hm⟩ := k1; exact DataW.trod_lt m _ _ _ hm
  obtain ⟨s0, rfl, w0⟩ : ∃ ss : List ByteArray, ss.length = len0 ∧ SRow W a0 ss := by obtain ⟨fuel, hf⟩ := h0; exact row_of_strings hf
  obtain ⟨s1, rfl, w1⟩ : ∃ ss : List ByteArray, ss.length = len1 ∧ SRow W a1 ss := by obtain ⟨fuel, hf⟩ := h1; exact row_of_strings hf
  clear hA0 hval0
  refine (agree_walk a0 a1 cap0 cap1 s0 s1 W w0 w1).mono fun e W' ⟨he, bel⟩ => ?_
  subst he
  exact ⟨_, rfl, _, _, _, [], _, [], hW', trodAll_mk1 (shut_bool Efbg.underlying4 _), (trodAll_mk2 (Below.trod Efbg.laidOut (by kernel_rfl) (of_decide_eq_true (by kernel_rfl)) k0 bel lt0) (Below.trod Efbg.laidOut (by kernel_rfl) (of_decide_eq_true (by kernel_rfl)) k1 bel lt1)), rfl, bel.frame _, fun h => by cases h⟩

theorem over : Rows.fnMapLitStringAgreesWithArrayLitRow.holds Efbg.pinned (OpenSpec.ofChange Rows.fnMapLitStringAgreesWithArrayLitSpec) :=
  OpenClaim.holds_of_wide 4 Efbg.f4 rfl rfl rfl rfl rfl rfl rfl ⟨rfl, rfl, rfl, rfl, rfl⟩ rfl rfl rfl rfl rfl (by kernel_rfl) Efbg.func4 (by kernel_rfl)
    (of_decide_eq_true (by kernel_rfl)) (by unfold Func.isWrapper; first | (rw [if_pos (by decide +kernel)]; kernel_rfl) | (rw [if_neg (by decide +kernel)]; exact ⟨rfl, rfl⟩))
    (fun os started H enc _ => lifted os started H enc)

end Go.Proofs.Yoefbw.agreeProof
namespace Go.Proofs.Yoefbw
/-- THE STATEMENT -/
theorem agree_proved : Rows.FnMapLitStringAgreesWithArrayLitSaid := agreeProof.over
end Go.Proofs.Yoefbw
