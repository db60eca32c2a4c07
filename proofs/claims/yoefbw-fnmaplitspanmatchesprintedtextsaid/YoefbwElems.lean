import Derived.Test.YoefbwMapLit
import Derived.Deep.RegionLaw
import Derived.RegionTactic
import Derived.BigRegion
namespace Go.Proofs.Yoefbw
open Go.RowKit

/-- append within the capacity, as one step of a region that draws. -/
theorem step_append_fits {P : Program} {ops : Array Oper} {o : Oper} {a : Act} {w : World} {K : Act → World → Prop} {Q : Exit → Act → World → Prop} {E : Prop}
    (hg : o.guard = none) (s x : Operand) (t : TypeId) (hop : o.op = Op.call { callee := Callee.builtin Builtin.append, args := #[s, x], argTypes := #[t, t] })
    (base : Nat) (e : TypeId) (i : TypeInfo) (size : Nat) (h1 : P.underlying t = some (.slice e)) (h2 : P.info? e = some i) (h4 : i.size = size)
    (g k cap : Nat) (xs : List Value) (hs : a.eval s = .slice (some ⟨g, 0, none⟩) k cap) (ad : Addr) (m c : Nat) (news : List Value) (hx : a.eval x = .slice (some ad) m c) (hn : news.length = m * size)
    (h1c : ∀ u ∈ news, u.oneCell' = true) (b1 : k + m ≤ cap) (hown : w.ownsRow base e size (.slice (some ⟨g, 0, none⟩) k cap) k xs) (hc : ∀ j u, news[j]? = some u → w.cell? (ad.add j) = some u)
    (hK : ∀ w', w'.ownsRow base e size (.slice (some ⟨g, 0, none⟩) (k + m) cap) (k + m) (xs ++ news) → w.grownBy w' (some g) → K (a.put o.dst (.slice (some ⟨g, 0, none⟩) (k + m) cap)) w') :
    if Region.wanted o (yielded ops a.tmps) = true then Oper.wp P o a w K Q else E := by
  have hw : Region.wanted o (yielded ops a.tmps) = true := by simp [Region.wanted, hg]
  rw [if_pos hw]
  obtain ⟨w', hrun, r1, r2⟩ := run_append_fits (P := P) w base t o.type e i size h1 h2 h4 g k cap xs hown ad m c news hn hc h1c b1
  unfold Oper.wp
  simp [execOp, hop, resolve, invoke, builtin, hs, hx, hrun, Result.andThen]
  exact hK w' r1 r2

theorem Efbg.info35 : (Efbg.prog.info? 35).map (fun i => (i.zero, i.size, i.bytes)) = some (some (.pointer none), 1, 8) := by kernel_rfl

/-- The elements that zzElems makes. -/
def els (ks vs : List ByteArray) : List El := List.zipWith (fun k v => El.mk k v 0 0) ks vs
theorem els_length (ks vs : List ByteArray) : (els ks vs).length = min ks.length vs.length := by simp [els]

def ElemsEnd (f : Value → Value) (xs : List El) (w : World) (e : Ending) (w' : World) : Prop :=
  ∃ a' c', e = .returned (.slice a' xs.length c') ∧ Els f w' a' xs ∧ Below w.heap.size w w'

/-- The slice of elements while it is made: its row is block B, its nodes lie behind B. -/
def Made (wr : World) (B n : Nat) (xs : List El) (L : List Value) : Prop :=
  wr.ownsRow B 35 1 (.slice (some ⟨B, 0, none⟩) xs.length n) xs.length L ∧
  ∀ (j : Nat) (x : El), xs[j]? = some x → ∃ bm bi, L[j]? = some (.pointer (some ⟨bm, 0, none⟩)) ∧ B < bm ∧ bm < wr.heap.size ∧ B < bi ∧ bi < wr.heap.size ∧
    wr.cell? ⟨bm, 0, none⟩ = some (.string x.k) ∧ wr.cell? ⟨bm, 1, none⟩ = some (.int .i64 x.kp) ∧ wr.cell? ⟨bm, 3, none⟩ = some (.iface 40 (.pointer (some ⟨bi, 0, none⟩))) ∧
    wr.cell? ⟨bi, 0, none⟩ = some (.string x.v) ∧ wr.cell? ⟨bi, 1, none⟩ = some (.int .i64 x.vp)

/-- The world at the append: the identifier, the node, the one-element slice. -/
def nodeW (w : World) (x : El) (cp : Int) : World :=
  ((w.alloc (.cells #[.string x.v, .int .i64 x.vp] 42)).alloc (.cells #[.string x.k, .int .i64 x.kp, .int .i64 cp, .iface 40 (.pointer (some ⟨w.heap.size, 0, none⟩))] 46)).alloc (.cells #[.pointer (some ⟨w.heap.size + 1, 0, none⟩)] 35)

theorem nodeW_size (w : World) (x : El) (cp : Int) : (nodeW w x cp).heap.size = w.heap.size + 3 := by simp [nodeW]
theorem nodeW_below (w : World) (x : El) (cp : Int) : Below w.heap.size w (nodeW w x cp) :=
  (((Below.refl _ _).alloc (Nat.le_refl _) _).alloc (by simp) _).alloc (by simp; omega) _
theorem nodeW_i0 (w : World) (x : El) (cp : Int) : (nodeW w x cp).cell? ⟨w.heap.size, 0, none⟩ = some (.string x.v) := by
  rw [nodeW, World.cell?_alloc_past _ _ _ (by simp; omega), World.cell?_alloc_past _ _ _ (by simp), World.cell?_alloc_at _ _ _ _ rfl]; rfl
theorem nodeW_i1 (w : World) (x : El) (cp : Int) : (nodeW w x cp).cell? ⟨w.heap.size, 1, none⟩ = some (.int .i64 x.vp) := by
  rw [nodeW, World.cell?_alloc_past _ _ _ (by simp; omega), World.cell?_alloc_past _ _ _ (by simp), World.cell?_alloc_at _ _ _ _ rfl]; rfl
theorem nodeW_m0 (w : World) (x : El) (cp : Int) : (nodeW w x cp).cell? ⟨w.heap.size + 1, 0, none⟩ = some (.string x.k) := by
  rw [nodeW, World.cell?_alloc_past _ _ _ (by simp), World.cell?_alloc_at _ _ _ _ (by simp)]; rfl
theorem nodeW_m1 (w : World) (x : El) (cp : Int) : (nodeW w x cp).cell? ⟨w.heap.size + 1, 1, none⟩ = some (.int .i64 x.kp) := by
  rw [nodeW, World.cell?_alloc_past _ _ _ (by simp), World.cell?_alloc_at _ _ _ _ (by simp)]; rfl
theorem nodeW_m3 (w : World) (x : El) (cp : Int) : (nodeW w x cp).cell? ⟨w.heap.size + 1, 3, none⟩ = some (.iface 40 (.pointer (some ⟨w.heap.size, 0, none⟩))) := by
  rw [nodeW, World.cell?_alloc_past _ _ _ (by simp), World.cell?_alloc_at _ _ _ _ (by simp)]; rfl
theorem nodeW_new (w : World) (x : El) (cp : Int) : ∀ j u, [Value.pointer (some ⟨w.heap.size + 1, 0, none⟩)][j]? = some u → (nodeW w x cp).cell? ((⟨w.heap.size + 1 + 1, 0, none⟩ : Addr).add j) = some u := by
  intro j u hj
  match j, hj with
  | 0, hj =>
    simp at hj; subst hj
    have e : (⟨w.heap.size + 1 + 1, 0, none⟩ : Addr).add 0 = ⟨w.heap.size + 1 + 1, 0, none⟩ := by simp [Addr.add]
    rw [e, nodeW, World.cell?_alloc_at _ _ _ _ (by simp)]; rfl
theorem nodeW_owns {w : World} {base : Nat} {e : TypeId} {size : Nat} {v : Value} {n : Nat} {xs : List Value} (h : w.ownsRow base e size v n xs) (x : El) (cp : Int) : (nodeW w x cp).ownsRow base e size v n xs :=
  ((h.alloc _).alloc _).alloc _

theorem Made.step {wr w3 : World} {B n : Nat} {xs : List El} {L : List Value} (h : Made wr B n xs L) (x : El) (cp : Int) (hB : B < wr.heap.size)
    (hown : w3.ownsRow B 35 1 (.slice (some ⟨B, 0, none⟩) (xs.length + 1) n) (xs.length + 1) (L ++ [.pointer (some ⟨wr.heap.size + 1, 0, none⟩)])) (hgrow : (nodeW wr x cp).drew.grownBy w3 (some B)) :
    Made w3 B n (xs ++ [x]) (L ++ [.pointer (some ⟨wr.heap.size + 1, 0, none⟩)]) := by
  have hsz : wr.heap.size + 3 ≤ w3.heap.size := by have := hgrow.size; simp only [World.drew] at this; rw [nodeW_size] at this; exact this
  have hcell : ∀ (b o : Nat), B < b → b < wr.heap.size + 3 → w3.cell? ⟨b, o, none⟩ = (nodeW wr x cp).cell? ⟨b, o, none⟩ := by
    intro b o h1 h2
    refine World.cell?_of_block (w := nodeW wr x cp) (hgrow.block b ?_ ?_)
    · show b < (nodeW wr x cp).heap.size
      rw [nodeW_size]; exact h2
    · intro e; cases e; omega
  have hold : ∀ (b o : Nat), B < b → b < wr.heap.size → w3.cell? ⟨b, o, none⟩ = wr.cell? ⟨b, o, none⟩ := fun b o h1 h2 =>
    (hcell b o h1 (by omega)).trans ((nodeW_below wr x cp).cell (p := ⟨b, o, none⟩) h2)
  have hL : L.length = xs.length := by have := h.1.1; omega
  refine ⟨by simpa using hown, fun j y hj => ?_⟩
  by_cases hlt : j < xs.length
  · rw [List.getElem?_append_left hlt] at hj
    obtain ⟨bm, bi, h1, h2, h3, h4, h5, c1, c2, c3, c4, c5⟩ := h.2 j y hj
    refine ⟨bm, bi, by rw [List.getElem?_append_left (by omega)]; exact h1, h2, by omega, h4, by omega, ?_, ?_, ?_, ?_, ?_⟩
    · rw [hold _ _ h2 h3]; exact c1
    · rw [hold _ _ h2 h3]; exact c2
    · rw [hold _ _ h2 h3]; exact c3
    · rw [hold _ _ h4 h5]; exact c4
    · rw [hold _ _ h4 h5]; exact c5
  · have hje : j = xs.length := by
      have := (List.getElem?_eq_some_iff.1 hj).1
      simp at this; omega
    subst hje
    rw [List.getElem?_append_right (Nat.le_refl _)] at hj
    simp at hj
    subst hj
    refine ⟨wr.heap.size + 1, wr.heap.size, by rw [← hL, List.getElem?_append_right (Nat.le_refl _)]; simp, by omega, by omega, hB, by omega, ?_, ?_, ?_, ?_, ?_⟩
    · rw [hcell _ _ (by omega) (by omega)]; exact nodeW_m0 _ _ _
    · rw [hcell _ _ (by omega) (by omega)]; exact nodeW_m1 _ _ _
    · rw [hcell _ _ (by omega) (by omega)]; exact nodeW_m3 _ _ _
    · rw [hcell _ _ (by omega) (by omega)]; exact nodeW_i0 _ _ _
    · rw [hcell _ _ (by omega) (by omega)]; exact nodeW_i1 _ _ _

theorem Made.els {wr : World} {B n : Nat} {xs : List El} {L : List Value} (h : Made wr B n xs L) : Els id wr (some ⟨B, 0, none⟩) xs := by
  obtain ⟨ho, hn⟩ := h
  obtain ⟨hlen, ho⟩ := ho
  intro j x hj
  rcases ho with ⟨ho, -⟩ | ⟨g, cap, cur, hv, -, hg, hnc, -, hcs, htk⟩
  · cases ho
  · simp only [Value.slice.injEq, Option.some.injEq, Addr.mk.injEq] at hv
    obtain ⟨⟨rfl, -⟩, -, rfl⟩ := hv
    refine ⟨B, 0, rfl, (Array.getElem?_eq_some_iff.1 hg).1, fun i y hi => ?_⟩
    obtain ⟨bm, bi, h1, h2, h3, h4, h5, c⟩ := hn i y hi
    refine ⟨bm, bi, ?_, h3, h5, c⟩
    rw [Nat.zero_add]
    refine cell_row hg _ _ ?_
    rw [← htk, List.getElem?_take] at h1
    split at h1
    · simpa using h1
    · cases h1

theorem Made.start {wr : World} {B n : Nat} (h : wr.ownsRow B 35 1 (.slice (some ⟨B, 0, none⟩) 0 n) 0 []) : Made wr B n [] [] :=
  ⟨h, fun j x hj => by simp at hj⟩

end Go.Proofs.Yoefbw
