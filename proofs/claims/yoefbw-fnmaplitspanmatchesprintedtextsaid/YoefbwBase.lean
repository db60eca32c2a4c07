/-
  Seat oefb. What the walks are told of a slice of strings, and the plain functions.
-/
import Derived.Test.YoefbwRows
import Derived.WalkKit
import Derived.WalkSpells
import Derived.WalkLawsBesides
namespace Go.Proofs.Yoefbw
open Go.RowKit

theorem hid {p : Prop} (h : p) : Hid p := h

/-- The sum of the sizes of some strings. -/
def sz (l : List ByteArray) : Nat := (l.map ByteArray.size).sum

theorem sz_nil : sz [] = 0 := rfl
theorem sz_take_succ (l : List ByteArray) (k : Nat) (x : ByteArray) (h : l[k]? = some x) : sz (l.take (k + 1)) = sz (l.take k) + x.size := by
  rw [List.take_add_one, h]; simp [sz]
theorem sz_take_le (l : List ByteArray) (k : Nat) : sz (l.take k) ≤ sz l := by
  have h : sz l = sz (l.take k) + sz (l.drop k) := by
    unfold sz
    rw [← List.sum_append, ← List.map_append, List.take_append_drop]
  omega
theorem sz_mem (l : List ByteArray) (k : Nat) (x : ByteArray) (h : l[k]? = some x) : x.size ≤ sz l := by
  have := sz_take_succ l k x h
  have := sz_take_le l (k + 1)
  omega

/-- A slice of strings: where there is an element there is an address, and the cell is there. -/
def SRow (w : World) (a : Option Addr) (ss : List ByteArray) : Prop :=
  ∀ (j : Nat) (x : ByteArray), ss[j]? = some x → ∃ b off, a = some ⟨b, off, none⟩ ∧ b < w.heap.size ∧ ∀ (i : Nat) (y : ByteArray), ss[i]? = some y → w.cell? ⟨b, off + i, none⟩ = some (.string y)

theorem SRow.below {w w' : World} {a : Option Addr} {ss : List ByteArray} (h : SRow w a ss) (hb : Below w.heap.size w w') : SRow w' a ss := by
  intro j x hj
  obtain ⟨b, off, ha, hlt, hc⟩ := h j x hj
  exact ⟨b, off, ha, Nat.lt_of_lt_of_le hlt hb.size, fun i y hi => (hb.cell (p := ⟨b, off + i, none⟩) hlt).trans (hc i y hi)⟩

theorem SRow.at {w : World} {a : Option Addr} {ss : List ByteArray} (h : SRow w a ss) {k : Nat} (hk : k < ss.length) :
    ∃ b off x, ss[k]? = some x ∧ a = some ⟨b, off, none⟩ ∧ b < w.heap.size ∧ w.cell? ⟨b, off + k, none⟩ = some (.string x) := by
  obtain ⟨b, off, ha, hlt, hc⟩ := h k ss[k] (List.getElem?_eq_getElem hk)
  exact ⟨b, off, ss[k], List.getElem?_eq_getElem hk, ha, hlt, hc k _ (List.getElem?_eq_getElem hk)⟩

end Go.Proofs.Yoefbw
