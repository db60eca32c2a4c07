/-
  Seat oefb. For FnMapLitSpanMatchesPrintedText: the positions laid along the text; the plain law.
-/
import Derived.Test.YoefbwPos
namespace Go.Proofs.Yoefbw
open Go.RowKit

/-- Where the j-th key stands in the text. -/
def offK (ys : List El) (j : Nat) : Nat := (preL ys j).length + if j = 0 then 0 else 2

/-- An element with the positions of its place in the text that begins at lb. -/
def posEl (lb : Int) (ys : List El) (j : Nat) (x : El) : El := ⟨x.k, x.v, lb + offK ys j, lb + offK ys j + x.k.size + 2⟩
def posEls (lb : Int) (ys : List El) : List El := ys.mapIdx (posEl lb ys)

theorem posEls_length (lb : Int) (ys : List El) : (posEls lb ys).length = ys.length := by simp [posEls]
theorem posEls_get (lb : Int) (ys : List El) (k : Nat) (x : El) (h : ys[k]? = some x) : (posEls lb ys)[k]? = some (posEl lb ys k x) := by simp [posEls, h]
theorem posEls_take_succ (lb : Int) (ys : List El) (k : Nat) (x : El) (h : ys[k]? = some x) : (posEls lb ys).take (k + 1) = (posEls lb ys).take k ++ [posEl lb ys k x] := by
  rw [List.take_add_one, posEls_get lb ys k x h]; rfl

theorem map_mapIdx_same {α β : Type} (f : Nat → α → α) (g : α → β) (h : ∀ i x, g (f i x) = g x) (l : List α) : (l.mapIdx f).map g = l.map g := by
  apply List.ext_getElem?
  intro i
  simp only [List.getElem?_map, List.getElem?_mapIdx, Option.map_map]
  cases l[i]? <;> simp [h]

theorem pairs_posEls (lb : Int) (ys : List El) : pairs (posEls lb ys) = pairs ys :=
  map_mapIdx_same (posEl lb ys) (fun x : El => pairB x.k x.v) (fun _ _ => rfl) ys
theorem szE_posEls (lb : Int) (ys : List El) : szE (posEls lb ys) = szE ys := by
  unfold szE posEls
  rw [map_mapIdx_same (posEl lb ys) (fun x : El => x.k.size + x.v.size) (fun _ _ => rfl)]

/-- One step of the text. -/
theorem preL_step (ys : List El) (k : Nat) (x : El) (h : ys[k]? = some x) :
    ∃ A, A.length = offK ys k ∧ preL ys k <+: A ∧ preL ys (k + 1) = A ++ x.k.data.toList ++ [58, 32] ++ x.v.data.toList := by
  by_cases hk : k = 0
  · subst hk
    exact ⟨preL ys 0, by simp [offK], List.prefix_refl _, by rw [preL_first ys x h]; simp⟩
  · refine ⟨preL ys k ++ [44, 32], by simp [offK, hk], List.prefix_append _ _, ?_⟩
    rw [preL_next ys x k (by omega) h]
    simp

theorem preL_step_length (ys : List El) (k : Nat) (x : El) (h : ys[k]? = some x) : (preL ys (k + 1)).length = offK ys k + x.k.size + 2 + x.v.size := by
  obtain ⟨A, h1, -, h2⟩ := preL_step ys k x h
  rw [h2]
  simp only [List.length_append, size_toList, List.length_cons, List.length_nil, h1]

theorem preL_le_offK (ys : List El) (k : Nat) : (preL ys k).length ≤ offK ys k := by unfold offK; omega

theorem preL_prefix (ys : List El) (j m : Nat) (h : j ≤ m) (hm : m ≤ ys.length) : preL ys j <+: preL ys m := by
  induction m with
  | zero => have : j = 0 := by omega
            subst this; exact List.prefix_refl _
  | succ m ih =>
    by_cases hj : j = m + 1
    · subst hj; exact List.prefix_refl _
    · obtain ⟨A, -, h1, h2⟩ := preL_step ys m ys[m] (List.getElem?_eq_getElem (by omega))
      rw [h2]
      refine (ih (by omega) (by omega)).trans (h1.trans ?_)
      rw [List.append_assoc, List.append_assoc]
      exact List.prefix_append _ _

theorem preL_mono (ys : List El) (j m : Nat) (h : j ≤ m) (hm : m ≤ ys.length) : (preL ys j).length ≤ (preL ys m).length := (preL_prefix ys j m h hm).length_le

theorem extract_mid (S : ByteArray) (A X R : List UInt8) (x : ByteArray) (o : Nat) (h : S.data.toList = A ++ X ++ R) (hA : A.length = o) (hX : x.data.toList = X) : S.extract o (o + x.size) = x := by
  refine toList_inj ?_
  have hs : x.size = X.length := by rw [← hX, size_toList]
  rw [Lib.extract_data, h, hX, hs, ← hA]
  simp

/-- The key and the value stand in the text at their places. -/
theorem text_at (ys : List El) (S : ByteArray) (hS : S = litB 123 125 (pairs ys)) (k : Nat) (x : El) (h : ys[k]? = some x) :
    S.extract (offK ys k) (offK ys k + x.k.size) = x.k ∧ S.extract (offK ys k + x.k.size + 2) (offK ys k + x.k.size + 2 + x.v.size) = x.v := by
  have hk := (List.getElem?_eq_some_iff.1 h).1
  obtain ⟨A, h1, -, h2⟩ := preL_step ys k x h
  obtain ⟨R, hR⟩ := preL_prefix ys (k + 1) ys.length (by omega) (Nat.le_refl _)
  have hL : S.data.toList = A ++ x.k.data.toList ++ [58, 32] ++ x.v.data.toList ++ R ++ [125] := by
    rw [hS, preL_full ys ys.length (Nat.le_refl _), ← hR, h2]
  constructor
  · refine extract_mid S A x.k.data.toList ([58, 32] ++ x.v.data.toList ++ R ++ [125]) x.k _ ?_ h1 rfl
    rw [hL]; simp
  · refine extract_mid S (A ++ x.k.data.toList ++ [58, 32]) x.v.data.toList (R ++ [125]) x.v _ ?_ ?_ rfl
    · rw [hL]; simp
    · simp only [List.length_append, size_toList, List.length_cons, List.length_nil, h1]

theorem text_size (ys : List El) (M : Nat) (hM : ys.length = M) : (litB 123 125 (pairs ys)).size = (preL ys M).length + 1 := by
  rw [lit_size, preL, List.take_of_length_le (by omega)]
  simp

end Go.Proofs.Yoefbw
