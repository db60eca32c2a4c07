import Derived.Test.YoefbwBase
import Derived.Laws.CopyOwn
import Derived.Lib.LazyBuf
namespace Go.Proofs.Yoefbw
open Go.RowKit

theorem Efbg.info9 : (Efbg.prog.info? 9).map (fun i => (i.zero, i.size, i.bytes)) = some (some (.string ⟨#[]⟩), 1, 16) := by kernel_rfl

def CloneEnd (ss : List ByteArray) (w : World) (e : Ending) (w' : World) : Prop :=
  ∃ a' c', e = .returned (.slice a' ss.length c') ∧ SRow w' a' ss ∧ Below w.heap.size w w'

theorem clone_nil (c : Nat) (w : World) :
    Calls Efbg.prog 8 #[.slice none 0 c] w fun e w' => CloneEnd [] w e w' := by
  have q : ∀ (w : World) (a : Option Addr) (n c : Nat), (binOp .eql 22 (.slice a n c) (.slice none 0 0)).run Efbg.prog w = .ok (.bool a.isNone) w := fun w a n c => run_eql_slice_nil w _ _ a n c Efbg.underlying22
  go_enter Efbg.func8, Efbg.ntmps8
  go_wp2
  go_ret
  exact ⟨none, 0, rfl, fun j x h => by simp at h, Below.refl _ _⟩

theorem cell_row {w : World} {g : Nat} {cs : Array Value} {t : TypeId} (h : w.heap[g]? = some (.cells cs t (0, 0))) (j : Nat) (v : Value) (hv : cs[j]? = some v) : w.cell? ⟨g, j, none⟩ = some v := by
  simp [World.cell?, h, hv]

/-- The copy: the new row holds the strings. -/
theorem copy_fact (ad : Addr) (c : Nat) (ss : List ByteArray) (w w1 : World) (h : SRow w (some ad) ss)
    (hown1 : w1.ownsRow w.heap.size 9 1 (.slice (some ⟨w.heap.size, 0, none⟩) ss.length ss.length) ss.length (madeCells (Value.string ⟨#[]⟩).cells (ss.length * 1)).toList) (hgrow1 : w.grownBy w1 none) :
    ∃ w2 v, (Builtin.copy_ #[22, 22] 3 #[.slice (some ⟨w.heap.size, 0, none⟩) ss.length ss.length, .slice (some ad) ss.length c]).run Efbg.prog w1 = .ok v w2 ∧
      SRow w2 (some ⟨w.heap.size, 0, none⟩) ss ∧ Below w.heap.size w w2 := by
  have hb1 : Below w.heap.size w w1 := (Below.refl _ _).grown hgrow1 (Nat.le_refl _) (fun k hk => by cases hk)
  obtain ⟨-, h1⟩ := hown1
  rcases h1 with ⟨h1, -⟩ | ⟨g, cap, cur, hv, -, hg, -, -, hcs, -⟩
  · cases h1
  · simp only [Value.slice.injEq, Option.some.injEq, Addr.mk.injEq] at hv
    obtain ⟨⟨rfl, -⟩, -, rfl⟩ := hv
    by_cases h0 : ss = []
    · subst h0
      refine ⟨w1, _, run_copy_none (P := Efbg.prog) w1 22 22 3 9 _ _ 0 0 0 c Efbg.underlying22 (by kernel_rfl) rfl, fun j x hj => by simp at hj, hb1⟩
    · obtain ⟨b, off, x, hx, ha, hlt, -⟩ := h.at (k := 0) (List.length_pos_iff.2 h0)
      cases ha
      have hsrc : ∀ j v, (ss.map Value.string)[j]? = some v → w1.cell? ((⟨b, off, none⟩ : Addr).add j) = some v := by
        intro j v hj
        rw [List.getElem?_map, Option.map_eq_some_iff] at hj
        obtain ⟨y, hy, rfl⟩ := hj
        obtain ⟨b', off', ha', -, hc'⟩ := h j y hy
        cases ha'
        have e : (⟨b, off, none⟩ : Addr).add j = ⟨b, off + j, none⟩ := by simp [Addr.add]
        rw [e]
        exact (hb1.cell (p := ⟨b, off + j, none⟩) hlt).trans (hc' j y hy)
      refine ⟨_, _, run_copy_row (P := Efbg.prog) w1 22 22 3 9 w.heap.size 0 ss.length ss.length ⟨b, off, none⟩ ss.length c cur 9 (ss.map Value.string) Efbg.underlying22 (by kernel_rfl) hg (by simp) hsrc (by simp [hcs]) (by intro v hv; rw [List.mem_map] at hv; obtain ⟨y, -, rfl⟩ := hv; rfl), ?_, below_setRow hb1 (Nat.le_refl _) _⟩
      have hlt2 : w.heap.size < w1.heap.size := by
        have := (Array.getElem?_eq_some_iff.1 hg).1
        exact this
      intro j y hj
      refine ⟨w.heap.size, 0, rfl, by simpa [World.setRow] using hlt2, fun i z hz => ?_⟩
      refine cell_row (setRow_heap w1 w.heap.size cur _ 9 _ hg) _ _ ?_
      have hd : cur.toList.drop ss.length = [] := List.drop_eq_nil_of_le (by simp [hcs])
      simp [hz, hd]

set_option maxHeartbeats 400000 in
theorem clone_some (ad : Addr) (c : Nat) (ss : List ByteArray) (w : World) (h : SRow w (some ad) ss) (hlen : ss.length ≤ 1048576) :
    Calls Efbg.prog 8 #[.slice (some ad) ss.length c] w fun e w' => CloneEnd ss w e w' := by
  have q : ∀ (w : World) (a : Option Addr) (n c : Nat), (binOp .eql 22 (.slice a n c) (.slice none 0 0)).run Efbg.prog w = .ok (.bool a.isNone) w := fun w a n c => run_eql_slice_nil w _ _ a n c Efbg.underlying22
  obtain ⟨i0, hi, hz0, hz1, hz2⟩ := info_parts Efbg.info9
  go_enter Efbg.func8, Efbg.ntmps8
  go_wp2_with (at_make; refine wpList_make_full _ rfl _ _ 22 rfl w.heap.size 9 i0 (.string ⟨#[]⟩) 1 Efbg.underlying22 hi hz0 hz1 _ _ _ _ ss.length rfl rfl rfl rfl (by rw [hz2]; omega) (by unfold maxLen; omega) (Nat.le_refl _) ?_; intro w1 hown1 hgrow1; obtain ⟨w2, v2, hcp, hr2, hb2⟩ := copy_fact ad c ss w w1 h hown1 hgrow1; clear hown1 hgrow1)
  go_ret
  exact ⟨_, _, rfl, hr2, hb2⟩

theorem clone_any (a : Option Addr) (c : Nat) (ss : List ByteArray) (w : World) (h : SRow w a ss) (hlen : ss.length ≤ 1048576) :
    Calls Efbg.prog 8 #[.slice a ss.length c] w fun e w' => CloneEnd ss w e w' := by
  cases a with
  | some ad => exact clone_some ad c ss w h hlen
  | none =>
    obtain rfl : ss = [] := by
      cases ss with
      | nil => rfl
      | cons x r => obtain ⟨b, off, ha, -⟩ := h 0 x rfl; cases ha
    exact clone_nil c w

end Go.Proofs.Yoefbw
