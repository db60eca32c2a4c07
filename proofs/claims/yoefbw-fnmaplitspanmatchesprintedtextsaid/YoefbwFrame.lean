/-
  Seat oefb. What the three rows share: how a slice of strings that came in is opened.
-/
import Derived.Test.YoefbwBase
import Derived.ProofKit
import Derived.SliceStrings
namespace Go.Proofs.Yoefbw
open Go.ChangeShapes Go.WideShapes Go.ChangeAt Go.RowKit

theorem Efbg.own : ownKnob Efbg.prog.godebug = none := by kernel_rfl
theorem Efbg.laidOut : laidOutB Efbg.prog = true := by kernel_rfl

/-- What the form says of a slice of strings that came in, as the walk wants it. -/
theorem row_of_strings {H : Type} {enc : TypeId × Value → H} {W : World} {a : Option Addr} {len cap : Nat} {x : DataW H × List MemPlace} {fuel : Nat}
    (hf : DataW.trod enc Efbg.prog W 0 (fun _ => true) true fuel 22 (Value.cells (.slice a len cap)).toList = some x) : ∃ ss : List ByteArray, ss.length = len ∧ SRow W a ss := by
  rcases open_strings Efbg.underlying22 Efbg.underlying9 (by kernel_rfl) hf with ⟨hcs, _⟩ | ⟨ad, l, c, ss, hcs, _, hl, hm, hz, _, hcell, hwz⟩
  · simp [Value.cells] at hcs
    obtain ⟨rfl, rfl, rfl⟩ := hcs
    exact ⟨[], rfl, fun j y hj => by simp at hj⟩
  · simp [Value.cells] at hcs
    obtain ⟨rfl, rfl, rfl⟩ := hcs
    simp only [if_true] at hz
    refine ⟨ss.take len, by rw [List.length_take]; omega, fun j y hj => ?_⟩
    have hj' : j < ss.length := by
      have := (List.getElem?_eq_some_iff.1 hj).1
      rw [List.length_take] at this
      omega
    obtain ⟨b, off, spot⟩ := ad
    have hspot : spot = none := by simpa [Addr.add] using World.cell?_spot (hcell 0 (by omega))
    subst hspot
    have hc : ∀ i, i < ss.length → W.cell? ⟨b, off + i, none⟩ = some (.string (ss.getD i ByteArray.empty)) := fun i hi => by rw [← add_plain]; exact hcell i hi
    refine ⟨b, off, rfl, World.block_lt_of_cell? _ _ (hc j hj'), fun i z hi => ?_⟩
    rw [List.getElem?_take] at hi
    split at hi
    · have hi' := (List.getElem?_eq_some_iff.1 hi).1
      rw [hc i hi', List.getD_eq_getElem?_getD, hi]
      rfl
    · cases hi

end Go.Proofs.Yoefbw
