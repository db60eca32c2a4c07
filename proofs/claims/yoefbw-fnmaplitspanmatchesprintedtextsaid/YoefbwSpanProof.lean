/-
  Seat oefb. 'Rows.FnMapLitSpanMatchesPrintedTextSaid' proved: the row over the walk.
-/
import Derived.Test.YoefbwRows
import Derived.Test.YoefbwSpan
import Derived.Test.YoefbwFrame
import Derived.ProofKit
import Derived.ShutString
import Derived.ChangeOld
import Derived.Below
namespace Go.Proofs.Yoefbw.spanProof
open Go.ChangeShapes Go.WideShapes Go.ChangeAt Go.RowKit
set_option linter.unusedVariables false

theorem i32_bounds {z : Int} (h : (Lit.int .i32 z).wf = true) : -2147483648 ≤ z ∧ z ≤ 2147483647 := by
  simp [Lit.wf, IntKind.min, IntKind.max, IntKind.signed, IntKind.bits] at h
  omega

set_option maxRecDepth 100000 in
theorem lifted (os : Os) (started : os.Started) (H : Type) (enc : TypeId × Value → H) :
    ReturnsInHanded {} Efbg.checked os 5 .any (Rows.fnMapLitSpanMatchesPrintedTextSpec.pre6 enc Efbg.prog Efbg.f5 Rows.fnMapLitSpanMatchesPrintedTextRow.domain false) (Rows.fnMapLitSpanMatchesPrintedTextSpec.post enc Efbg.prog Efbg.f5 false true false false) := by
  refine returnsInHanded_of_change (C := Efbg.checked) Efbg.own started (by kernel_rfl) Efbg.func5
    (ChangeSpec.witness6 (enc := enc) (C := Efbg.checked) false ⟨#[], #[.slice none 0 0, .slice none 0 0, .int .i32 0], []⟩ 8 (by kernel_rfl) (by kernel_rfl) (by kernel_rfl) (by kernel_rfl)) ?_
  intro W base args ds gs before hval0 hW hcnd _
  have hval : ∀ (j : Nat) t v, Efbg.f5.params[j]? = some t → args[j]? = some v → Value.okWide Efbg.prog W .any base t v := hval0
  have hW' := hW
  obtain ⟨p, q, hA0, hV, rfl, hfz, hnd⟩ := hW
  have hA : DataW.TrodAll enc Efbg.prog W 0 (fun _ => true) true Efbg.f5.params.toList args.toList ds p := hA0
  rw [Efbg.params5] at hA hval
  obtain ⟨v0, vs0, d0, ds0, p0, q0, hargs, rfl, rfl, h0, r0⟩ := trodAll_cons hA
  obtain ⟨v1, vs1, d1, ds1, p1, q1, rfl, rfl, rfl, h1, r1⟩ := trodAll_cons r0
  obtain ⟨v2, vs2, d2, ds2, p2, q2, rfl, rfl, rfl, h2, r2⟩ := trodAll_cons r1
  obtain ⟨rfl, rfl, rfl⟩ := trodAll_nil r2
  obtain rfl : args = #[v0, v1, v2] := by cases args; simp_all
  obtain ⟨rfl, rfl⟩ := trodVars_none hV
  obtain ⟨a0, len0, cap0, rfl⟩ := okWide_slice Efbg.underlying22 (hval 0 22 v0 rfl rfl)
  obtain ⟨a1, len1, cap1, rfl⟩ := okWide_slice Efbg.underlying22 (hval 1 22 v1 rfl rfl)
  have k0 := h0
  have k1 := h1
  have lt0 : ∀ x ∈ p0, x.block < W.heap.size := by obtain ⟨m, hm⟩ := k0; exact DataW.trod_lt m _ _ _ hm
  have lt1 : ∀ x ∈ p1, x.block < W.heap.size := by obtain ⟨m, hm⟩ := k1; exact DataW.trod_lt m _ _ _ hm
  obtain ⟨s0, rfl, w0⟩ : ∃ ss : List ByteArray, ss.length = len0 ∧ SRow W a0 ss := by obtain ⟨fuel, hf⟩ := h0; exact row_of_strings hf
  obtain ⟨s1, rfl, w1⟩ : ∃ ss : List ByteArray, ss.length = len1 ∧ SRow W a1 ss := by obtain ⟨fuel, hf⟩ := h1; exact row_of_strings hf
  obtain ⟨z, rfl, rfl, rfl, wz⟩ := open_int Efbg.underlying21 (hval 2 21 v2 rfl rfl) h2
  have bz : -2147483648 ≤ z ∧ z ≤ 2147483647 := i32_bounds wz
  clear hA0 hval0
  refine (span_walk a0 a1 cap0 cap1 s0 s1 z W bz.1 bz.2 w0 w1).mono fun e W' ⟨he, bel⟩ => ?_
  subst he
  exact ⟨_, rfl, _, _, _, [], _, [], hW', trodAll_mk1 (shut_bool Efbg.underlying4 _), (trodAll_mk3 (Below.trod Efbg.laidOut (by kernel_rfl) (of_decide_eq_true (by kernel_rfl)) k0 bel lt0) (Below.trod Efbg.laidOut (by kernel_rfl) (of_decide_eq_true (by kernel_rfl)) k1 bel lt1) (shut_int Efbg.underlying21 wz)), rfl, bel.frame _, fun h => by cases h⟩

theorem over : Rows.fnMapLitSpanMatchesPrintedTextRow.holds Efbg.pinned (OpenSpec.ofChange Rows.fnMapLitSpanMatchesPrintedTextSpec) :=
  OpenClaim.holds_of_wide 5 Efbg.f5 rfl rfl rfl rfl rfl rfl rfl ⟨rfl, rfl, rfl, rfl, rfl⟩ rfl rfl rfl rfl rfl (by kernel_rfl) Efbg.func5 (by kernel_rfl)
    (of_decide_eq_true (by kernel_rfl)) (by unfold Func.isWrapper; first | (rw [if_pos (by decide +kernel)]; kernel_rfl) | (rw [if_neg (by decide +kernel)]; exact ⟨rfl, rfl⟩))
    (fun os started H enc _ => lifted os started H enc)

end Go.Proofs.Yoefbw.spanProof
namespace Go.Proofs.Yoefbw
/-- THE STATEMENT -/
theorem span_proved : Rows.FnMapLitSpanMatchesPrintedTextSaid := spanProof.over
end Go.Proofs.Yoefbw
