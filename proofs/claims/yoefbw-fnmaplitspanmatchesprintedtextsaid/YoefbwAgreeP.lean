/-
  Seat oefb. For FnMapLitStringAgreesWithArrayLit: the list of interface values over the same nodes; the plain law.
-/
import Derived.Test.YoefbwText
import Derived.Test.YoefbwArrLit
namespace Go.Proofs.Yoefbw
open Go.RowKit

theorem Efbg.info44 : (Efbg.prog.info? 44).map (fun i => (i.zero, i.size, i.bytes)) = some (some .nilIface, 1, 16) := by kernel_rfl

/-- A node lies in memory. -/
def NodeAt (w : World) (bm : Nat) (x : El) : Prop :=
  ∃ bi, bm < w.heap.size ∧ bi < w.heap.size ∧
    w.cell? ⟨bm, 0, none⟩ = some (.string x.k) ∧ w.cell? ⟨bm, 1, none⟩ = some (.int .i64 x.kp) ∧ w.cell? ⟨bm, 3, none⟩ = some (.iface 40 (.pointer (some ⟨bi, 0, none⟩))) ∧
    w.cell? ⟨bi, 0, none⟩ = some (.string x.v) ∧ w.cell? ⟨bi, 1, none⟩ = some (.int .i64 x.vp)

theorem NodeAt.below {w w' : World} {bm : Nat} {x : El} (h : NodeAt w bm x) (hb : Below w.heap.size w w') : NodeAt w' bm x := by
  obtain ⟨bi, h2, h3, h4, h5, h6, h7, h8⟩ := h
  exact ⟨bi, Nat.lt_of_lt_of_le h2 hb.size, Nat.lt_of_lt_of_le h3 hb.size,
    (hb.cell (p := ⟨bm, 0, none⟩) h2).trans h4, (hb.cell (p := ⟨bm, 1, none⟩) h2).trans h5, (hb.cell (p := ⟨bm, 3, none⟩) h2).trans h6,
    (hb.cell (p := ⟨bi, 0, none⟩) h3).trans h7, (hb.cell (p := ⟨bi, 1, none⟩) h3).trans h8⟩

/-- The list while it is made: its row is block B; the nodes lie in the world wM. -/
def Listed (wM wr : World) (B n : Nat) (xs : List El) (k : Nat) (L : List Value) : Prop :=
  wr.ownsRow B 44 1 (.slice (some ⟨B, 0, none⟩) k n) k L ∧
  ∀ (j : Nat) (x : El), xs[j]? = some x → j < k → ∃ bm, L[j]? = some (.iface 35 (.pointer (some ⟨bm, 0, none⟩))) ∧ NodeAt wM bm x

theorem Listed.start {wM wr : World} {B n : Nat} {xs : List El} (h : wr.ownsRow B 44 1 (.slice (some ⟨B, 0, none⟩) 0 n) 0 []) : Listed wM wr B n xs 0 [] :=
  ⟨h, fun _ _ _ hj => absurd hj (Nat.not_lt_zero _)⟩

theorem Listed.step {wM wr w3 : World} {B n k bm : Nat} {xs : List El} {L : List Value} (h : Listed wM wr B n xs k L) (x : El) (hx : xs[k]? = some x) (hn : NodeAt wM bm x)
    (hown : w3.ownsRow B 44 1 (.slice (some ⟨B, 0, none⟩) (k + 1) n) (k + 1) (L ++ [.iface 35 (.pointer (some ⟨bm, 0, none⟩))])) :
    Listed wM w3 B n xs (k + 1) (L ++ [.iface 35 (.pointer (some ⟨bm, 0, none⟩))]) := by
  have hL : L.length = k := by have := h.1.1; omega
  refine ⟨hown, fun j y hj hjk => ?_⟩
  by_cases hlt : j < k
  · obtain ⟨b2, h1, h2⟩ := h.2 j y hj hlt
    exact ⟨b2, by rw [List.getElem?_append_left (by omega)]; exact h1, h2⟩
  · have hje : j = k := by omega
    subst hje
    rw [hx] at hj
    cases hj
    exact ⟨bm, by rw [← hL, List.getElem?_append_right (Nat.le_refl _)]; simp, hn⟩

theorem Listed.els {wM wr : World} {B n : Nat} {xs : List El} {L : List Value} (h : Listed wM wr B n xs xs.length L) (hb : Below wM.heap.size wM wr) : Els (Value.iface 35) wr (some ⟨B, 0, none⟩) xs := by
  obtain ⟨ho, hn⟩ := h
  obtain ⟨hlen, ho⟩ := ho
  intro j x hj
  rcases ho with ⟨ho, -⟩ | ⟨g, cap, cur, hv, -, hg, hnc, -, hcs, htk⟩
  · cases ho
  · simp only [Value.slice.injEq, Option.some.injEq, Addr.mk.injEq] at hv
    obtain ⟨⟨rfl, -⟩, -, rfl⟩ := hv
    refine ⟨B, 0, rfl, (Array.getElem?_eq_some_iff.1 hg).1, fun i y hi => ?_⟩
    obtain ⟨bm, h1, h2⟩ := hn i y hi (List.getElem?_eq_some_iff.1 hi).1
    obtain ⟨bi, c⟩ := h2.below hb
    refine ⟨bm, bi, ?_, c⟩
    rw [Nat.zero_add]
    refine cell_row hg _ _ ?_
    rw [← htk, List.getElem?_take] at h1
    split at h1
    · simpa using h1
    · cases h1

/-- 'a.String()' of an array literal that has just been laid. -/
theorem arraylit_new (l r : Value) (a : Option Addr) (c : Nat) (xs : List El) (w : World) (hE : Els (Value.iface 35) w a xs) (hN : xs.length ≤ 4096) (hs : szE xs ≤ 1048576) :
    Calls Efbg.prog 13 #[.pointer (some ⟨w.heap.size, 0, none⟩)] (w.alloc (.cells #[.slice a xs.length c, l, r] 38)) fun e w' => e = .returned (.string (litB 91 93 (pairs xs))) ∧ Below w.heap.size w w' := by
  have hb : Below w.heap.size w (w.alloc (.cells #[.slice a xs.length c, l, r] 38)) := (Below.refl _ _).alloc (Nat.le_refl _) _
  have hlen : (joinB (pairs xs)).size ≤ 1073741824 := by rw [joinB_size]; have := innerL_length_le xs; omega
  refine (arraylit_any w.heap.size a c xs _ (by rw [World.cell?_alloc_at _ _ _ _ rfl]; rfl) (hE.below hb) hN (fun x hx => Nat.le_trans (szE_mem xs x hx) hs) hlen).mono ?_
  rintro e w' ⟨he, hb'⟩
  exact ⟨he, hb.trans (hb'.mono (by simp))⟩

/-! ### The plain law -/
theorem lit_size (l r : UInt8) (xs : List El) : (litB l r (pairs xs)).size = (innerL xs).length + 2 := by
  rw [litB_eq]
  simp [ByteArray.size]

theorem lit_first (l r : UInt8) (xs : List El) (h : 0 < (litB l r (pairs xs)).size) : (litB l r (pairs xs))[0] = l := by
  revert h
  rw [litB_eq]
  intro h
  rfl

theorem lit_last (l r : UInt8) (xs : List El) (i : Nat) (hi : i = (innerL xs).length + 1) (h : i < (litB l r (pairs xs)).size) : (litB l r (pairs xs))[i] = r := by
  revert h
  rw [litB_eq]
  intro h
  subst hi
  show (l :: innerL xs ++ [r]).toArray[(innerL xs).length + 1] = r
  simp

theorem lit_inner (l r : UInt8) (xs : List El) : ((litB l r (pairs xs)).extract 1 ((litB l r (pairs xs)).size - 1)).data.toList = innerL xs := by
  rw [Lib.extract_data, lit_size, litB_eq]
  simp

theorem toList_inj {a b : ByteArray} (h : a.data.toList = b.data.toList) : a = b := by
  apply ByteArray.ext
  exact Array.toList_inj.1 h

end Go.Proofs.Yoefbw
