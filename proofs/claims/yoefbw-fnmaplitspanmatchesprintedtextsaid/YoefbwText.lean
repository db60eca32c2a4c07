/-
  Seat oefb. The plain text of a literal: no Go in sight.
-/
import Derived.Test.YoefbwElems
namespace Go.Proofs.Yoefbw
open Go.RowKit

/-- The bytes of a pair. -/
def pairL (x : El) : List UInt8 := x.k.data.toList ++ [58, 32] ++ x.v.data.toList
theorem append_toList (a b : ByteArray) : (a ++ b).data.toList = a.data.toList ++ b.data.toList := by
  rw [ByteArray.data_append, Array.toList_append]
theorem pairB_toList (x : El) : (pairB x.k x.v).data.toList = pairL x := by
  unfold pairB pairL
  rw [append_toList, append_toList]
theorem size_toList (a : ByteArray) : a.data.toList.length = a.size := by rw [Array.length_toList]; rfl
theorem pairL_length (x : El) : (pairL x).length = x.k.size + x.v.size + 2 := by
  unfold pairL
  simp only [List.length_append, size_toList, List.length_cons, List.length_nil]
  omega

/-- What stands between the braces. -/
def innerL (xs : List El) : List UInt8 := Lib.join (xs.map pairL) [44, 32]

theorem innerL_eq (xs : List El) : Lib.join ((pairs xs).map (·.data.toList)) [44, 32] = innerL xs := by
  unfold innerL pairs
  rw [List.map_map]
  exact congrArg (fun l => Lib.join l [44, 32]) (List.map_congr_left fun x _ => pairB_toList x)

theorem innerL_nil : innerL [] = [] := rfl
theorem innerL_one (x : El) : innerL [x] = pairL x := Lib.join_one _ _
theorem innerL_snoc (xs : List El) (x : El) (h : xs ≠ []) : innerL (xs ++ [x]) = innerL xs ++ [44, 32] ++ pairL x := by
  obtain ⟨y, r, rfl⟩ : ∃ y r, xs = y :: r := by
    cases xs with
    | nil => exact absurd rfl h
    | cons y r => exact ⟨y, r, rfl⟩
  unfold innerL
  rw [List.cons_append, List.map_cons, List.map_cons, List.map_append, Lib.join_cons, Lib.join_cons]
  simp [Lib.joinTail]

/-- The sizes of all keys and values. -/
def szE (xs : List El) : Nat := (xs.map fun x => x.k.size + x.v.size).sum
theorem szE_take_le (xs : List El) (k : Nat) : szE (xs.take k) ≤ szE xs := by
  have h : szE xs = szE (xs.take k) + szE (xs.drop k) := by
    unfold szE
    rw [← List.sum_append, ← List.map_append, List.take_append_drop]
  omega
theorem szE_snoc (xs : List El) (x : El) : szE (xs ++ [x]) = szE xs + (x.k.size + x.v.size) := by simp [szE]
theorem szE_mem (xs : List El) (x : El) (h : x ∈ xs) : x.k.size + x.v.size ≤ szE xs := by
  induction xs with
  | nil => cases h
  | cons y r ih =>
    simp only [szE, List.map_cons, List.sum_cons]
    rcases List.mem_cons.1 h with rfl | h
    · omega
    · have := ih h; unfold szE at this; omega

theorem innerL_length_le (xs : List El) : (innerL xs).length ≤ 4 * xs.length + szE xs := by
  cases xs with
  | nil => simp [innerL_nil]
  | cons y r =>
    unfold innerL
    rw [List.map_cons, Lib.join_length]
    have : ∀ l : List El, Lib.lens (l.map pairL) = 2 * l.length + szE l := by
      intro l
      induction l with
      | nil => rfl
      | cons z s ih =>
        simp only [Lib.lens, szE, List.map_cons, List.sum_cons, List.length_cons, pairL_length] at ih ⊢
        omega
    rw [← List.map_cons, this]
    simp only [List.length_map, List.length_cons, List.length_nil]
    omega

theorem szE_els (ks vs : List ByteArray) : szE (els ks vs) ≤ sz ks + sz vs := by
  induction ks generalizing vs with
  | nil => simp [els, szE]
  | cons k r ih =>
    cases vs with
    | nil => simp [els, szE]
    | cons v s =>
      have := ih s
      simp only [els, szE, sz, List.zipWith_cons_cons, List.map_cons, List.sum_cons] at this ⊢
      omega

theorem joinB_size (xs : List El) : (joinB (pairs xs)).size = (innerL xs).length := by
  unfold joinB
  rw [innerL_eq]
  simp [ByteArray.size]

theorem joinB_eq (xs : List El) : joinB (pairs xs) = ⟨(innerL xs).toArray⟩ := by unfold joinB; rw [innerL_eq]

theorem litB_eq (l r : UInt8) (xs : List El) : litB l r (pairs xs) = ⟨(l :: innerL xs ++ [r]).toArray⟩ := by
  unfold litB
  rw [joinB_eq]
  apply ByteArray.ext
  rw [ByteArray.data_append, ByteArray.data_append]
  simp

theorem litB_nil : litB 123 125 (pairs []) = ⟨#[123, 125]⟩ := by rw [litB_eq]; rfl

/-- What has been gathered behind k elements: the brace and what stands between. -/
def preL (xs : List El) (k : Nat) : List UInt8 := 123 :: innerL (xs.take k)
theorem preL_zero (xs : List El) : preL xs 0 = [123] := rfl
theorem preL_first (xs : List El) (x : El) (h : xs[0]? = some x) : preL xs 1 = preL xs 0 ++ x.k.data.toList ++ [58] ++ [32] ++ x.v.data.toList := by
  have e : xs.take 1 = [x] := by rw [List.take_add_one, h]; rfl
  unfold preL
  rw [e, innerL_one, pairL]
  simp [innerL_nil]
theorem preL_next (xs : List El) (x : El) (k : Nat) (hk : 0 < k) (h : xs[k]? = some x) : preL xs (k + 1) = preL xs k ++ [44] ++ [32] ++ x.k.data.toList ++ [58] ++ [32] ++ x.v.data.toList := by
  have hlt := (List.getElem?_eq_some_iff.1 h).1
  have e : xs.take (k + 1) = xs.take k ++ [x] := by rw [List.take_add_one, h]; rfl
  have h0 : xs.take k ≠ [] := by
    intro h0
    have h1 := congrArg List.length h0
    rw [List.length_take, List.length_nil] at h1
    omega
  unfold preL
  rw [e, innerL_snoc _ _ h0, pairL]
  simp
theorem preL_length_le (xs : List El) (k : Nat) : (preL xs k).length ≤ 1 + 4 * xs.length + szE xs := by
  unfold preL
  have h1 := innerL_length_le (xs.take k)
  have h2 := szE_take_le xs k
  have h3 : (xs.take k).length ≤ xs.length := by rw [List.length_take]; omega
  simp only [List.length_cons]
  omega
theorem preL_full (xs : List El) (k : Nat) (h : xs.length ≤ k) : litB 123 125 (pairs xs) = ⟨(preL xs k ++ [125]).toArray⟩ := by
  rw [litB_eq, preL, List.take_of_length_le h]

/-- 'm.String()' of a map literal that has just been laid. -/
theorem maplit_new (l r : Value) (a : Option Addr) (c : Nat) (xs : List El) (w : World) (hE : Els id w a xs) (hN : xs.length ≤ 4096) (hs : szE xs ≤ 1048576) :
    Calls Efbg.prog 9 #[.pointer (some ⟨w.heap.size, 0, none⟩)] (w.alloc (.cells #[l, .slice a xs.length c, r] 30)) fun e w' => e = .returned (.string (litB 123 125 (pairs xs))) ∧ Below w.heap.size w w' ∧ w.heap.size < w'.heap.size ∧
      w'.cell? ⟨w.heap.size, 0, none⟩ = some l ∧ w'.cell? ⟨w.heap.size, 2, none⟩ = some r := by
  have hb : Below w.heap.size w (w.alloc (.cells #[l, .slice a xs.length c, r] 30)) := (Below.refl _ _).alloc (Nat.le_refl _) _
  have hlen : (joinB (pairs xs)).size ≤ 1073741824 := by rw [joinB_size]; have := innerL_length_le xs; omega
  refine (maplit_any w.heap.size a c xs _ (by rw [World.cell?_alloc_at _ _ _ _ rfl]; rfl) (hE.below hb) hN (fun x hx => Nat.le_trans (szE_mem xs x hx) hs) hlen).mono ?_
  rintro e w' ⟨he, hb'⟩
  have h2 : w.heap.size < (w.alloc (.cells #[l, .slice a xs.length c, r] 30)).heap.size := by simp
  refine ⟨he, hb.trans (hb'.mono (by simp)), Nat.lt_of_lt_of_le h2 hb'.size, ?_, ?_⟩
  · rw [hb'.cell (p := ⟨w.heap.size, 0, none⟩) h2, World.cell?_alloc_at _ _ _ _ rfl]; rfl
  · rw [hb'.cell (p := ⟨w.heap.size, 2, none⟩) h2, World.cell?_alloc_at _ _ _ _ rfl]; rfl

theorem maplit_zero (w : World) :
    Calls Efbg.prog 9 #[.pointer (some ⟨w.heap.size, 0, none⟩)] (w.alloc (.cells #[.int .i64 0, .slice none 0 0, .int .i64 0] 30)) fun e w' => e = .returned (.string ⟨#[123, 125]⟩) ∧ Below w.heap.size w w' := by
  refine (maplit_new (.int .i64 0) (.int .i64 0) none 0 [] w (fun j x hj => by simp at hj) (by simp) (by simp [szE])).mono ?_
  rintro e w' ⟨he, hb, -⟩
  exact ⟨by rw [he, litB_nil], hb⟩

end Go.Proofs.Yoefbw
