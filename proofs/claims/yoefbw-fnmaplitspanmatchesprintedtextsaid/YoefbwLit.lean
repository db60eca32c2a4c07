import Derived.Test.YoefbwElem
import Derived.Test.YoefbwShelf
import Derived.Test.YoefbwClone
namespace Go.Proofs.Yoefbw
open Go.RowKit

/-- The world has at most drawn. -/
def Still (w w' : World) : Prop := ∃ n, w' = w.drewN n
theorem Still.heap {w w' : World} (h : Still w w') : w'.heap = w.heap := by obtain ⟨n, rfl⟩ := h; rfl
theorem Still.below {w w' : World} (h : Still w w') (B : Nat) : Below B w w' := by obtain ⟨n, rfl⟩ := h; exact ⟨rfl, rfl, rfl, Nat.le_refl _, fun _ _ => rfl⟩
theorem Still.owns {w w' : World} (h : Still w w') {base : Nat} {e : TypeId} {size : Nat} {v : Value} {n : Nat} {xs : List Value} (ho : w.ownsRow base e size v n xs) : w'.ownsRow base e size v n xs := by
  obtain ⟨m, rfl⟩ := h; exact ho

/-- One element of a map literal: its key, its value's name, and their positions. -/
structure El where
  k : ByteArray
  v : ByteArray
  kp : Int
  vp : Int

/-- An element lies in memory: the pointer (as f lays it), the node, the identifier. -/
def ElAt (f : Value → Value) (w : World) (b o : Nat) (x : El) : Prop :=
  ∃ bm bi, w.cell? ⟨b, o, none⟩ = some (f (.pointer (some ⟨bm, 0, none⟩))) ∧ bm < w.heap.size ∧ bi < w.heap.size ∧
    w.cell? ⟨bm, 0, none⟩ = some (.string x.k) ∧ w.cell? ⟨bm, 1, none⟩ = some (.int .i64 x.kp) ∧ w.cell? ⟨bm, 3, none⟩ = some (.iface 40 (.pointer (some ⟨bi, 0, none⟩))) ∧
    w.cell? ⟨bi, 0, none⟩ = some (.string x.v) ∧ w.cell? ⟨bi, 1, none⟩ = some (.int .i64 x.vp)

theorem ElAt.below {f : Value → Value} {w w' : World} {b o : Nat} {x : El} (h : ElAt f w b o x) (hlt : b < w.heap.size) (hb : Below w.heap.size w w') : ElAt f w' b o x := by
  obtain ⟨bm, bi, h1, h2, h3, h4, h5, h6, h7, h8⟩ := h
  exact ⟨bm, bi, (hb.cell (p := ⟨b, o, none⟩) hlt).trans h1, Nat.lt_of_lt_of_le h2 hb.size, Nat.lt_of_lt_of_le h3 hb.size,
    (hb.cell (p := ⟨bm, 0, none⟩) h2).trans h4, (hb.cell (p := ⟨bm, 1, none⟩) h2).trans h5, (hb.cell (p := ⟨bm, 3, none⟩) h2).trans h6,
    (hb.cell (p := ⟨bi, 0, none⟩) h3).trans h7, (hb.cell (p := ⟨bi, 1, none⟩) h3).trans h8⟩

/-- A slice of elements. -/
def Els (f : Value → Value) (w : World) (a : Option Addr) (xs : List El) : Prop :=
  ∀ (j : Nat) (x : El), xs[j]? = some x → ∃ b off, a = some ⟨b, off, none⟩ ∧ b < w.heap.size ∧ ∀ (i : Nat) (y : El), xs[i]? = some y → ElAt f w b (off + i) y

theorem Els.below {f : Value → Value} {w w' : World} {a : Option Addr} {xs : List El} (h : Els f w a xs) (hb : Below w.heap.size w w') : Els f w' a xs := by
  intro j x hj
  obtain ⟨b, off, ha, hlt, hc⟩ := h j x hj
  exact ⟨b, off, ha, Nat.lt_of_lt_of_le hlt hb.size, fun i y hi => (hc i y hi).below hlt hb⟩

theorem Els.at {f : Value → Value} {w : World} {a : Option Addr} {xs : List El} (h : Els f w a xs) {k : Nat} (hk : k < xs.length) :
    ∃ b off x, xs[k]? = some x ∧ a = some ⟨b, off, none⟩ ∧ b < w.heap.size ∧ ElAt f w b (off + k) x := by
  obtain ⟨b, off, ha, hlt, hc⟩ := h k xs[k] (List.getElem?_eq_getElem hk)
  exact ⟨b, off, xs[k], List.getElem?_eq_getElem hk, ha, hlt, hc k _ (List.getElem?_eq_getElem hk)⟩

/-- The printed pairs. -/
def pairs (xs : List El) : List ByteArray := xs.map fun x => pairB x.k x.v
/-- strings.Join of them by a comma and a blank. -/
def joinB (ps : List ByteArray) : ByteArray := ⟨(Lib.join (ps.map (·.data.toList)) [44, 32]).toArray⟩
/-- A literal's text. -/
def litB (l r : UInt8) (ps : List ByteArray) : ByteArray := ByteArray.mk #[l] ++ joinB ps ++ ByteArray.mk #[r]

theorem pairs_length (xs : List El) : (pairs xs).length = xs.length := by simp [pairs]
theorem pairs_take_succ (xs : List El) (k : Nat) (x : El) (h : xs[k]? = some x) : ((pairs xs).take (k + 1)).map Value.string = ((pairs xs).take k).map Value.string ++ [.string (pairB x.k x.v)] := by
  rw [List.take_add_one]
  simp [pairs, h]

/-- Join, whatever the slice that the call owns. -/
theorem join_own (base : Nat) (v : Value) (ps : List ByteArray) (w : World) (ho : w.ownsRow base 9 1 v ps.length (ps.map Value.string)) (hN : ps.length ≤ 1048576) (hlen : (joinB ps).size ≤ 1073741824) :
    Calls Efbg.prog 20 #[v, .string ⟨#[44, 32]⟩] w fun e w' => e = .returned (.string (joinB ps)) ∧ Below w.heap.size w w' := by
  obtain ⟨-, ho⟩ := ho
  rcases ho with ⟨rfl, h0⟩ | ⟨g, cap, cur, rfl, -, hg, hnc, -, hcs, htk⟩
  · obtain rfl : ps = [] := List.eq_nil_of_length_eq_zero h0
    exact (Efbg.strings_Join_none none 0 _ w).mono fun e w' ⟨he, hw⟩ => ⟨he, hw ▸ Below.refl _ _⟩
  · refine (Efbg.strings_Join g 0 cap ps ⟨#[44, 32]⟩ w ?_ (Array.getElem?_eq_some_iff.1 hg).1 (by omega) hnc ?_)
    · intro j x hj
      refine cell_row hg _ _ ?_
      have h1 : (ps.map Value.string)[j]? = some (.string x) := by simp [hj]
      rw [← htk, List.getElem?_take] at h1
      rw [Nat.zero_add]
      split at h1
      · simpa using h1
      · cases h1
    · have : (Lib.join (ps.map (·.data.toList)) [44, 32]).length = (joinB ps).size := by simp [joinB, ByteArray.size]
      show (Lib.join (ps.map (·.data.toList)) [44, 32]).length ≤ _
      omega

end Go.Proofs.Yoefbw
