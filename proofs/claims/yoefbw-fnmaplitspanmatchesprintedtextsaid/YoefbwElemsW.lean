import Derived.Test.YoefbwElems
namespace Go.Proofs.Yoefbw
open Go.RowKit

theorem els_take_succ (ks vs : List ByteArray) (k : Nat) (x y : ByteArray) (hx : ks[k]? = some x) (hy : vs[k]? = some y) : (els ks vs).take (k + 1) = (els ks vs).take k ++ [⟨x, y, 0, 0⟩] := by
  rw [List.take_add_one]
  have : (els ks vs)[k]? = some ⟨x, y, 0, 0⟩ := by simp [els, List.getElem?_zipWith, hx, hy]
  rw [this]; rfl

theorem ElemsEnd.of {f : Value → Value} {xs : List El} {w w' : World} {k c : Nat} {a : Option Addr} (h : xs.length = k) (hE : Els f w' a xs) (hb : Below w.heap.size w w') : ElemsEnd f xs w (.returned (.slice a k c)) w' := by
  subst h; exact ⟨_, _, rfl, hE, hb⟩

set_option maxHeartbeats 1000000 in
theorem elems_any (a b : Option Addr) (c d : Nat) (ks vs : List ByteArray) (n : Nat) (w : World) (hk : SRow w a ks) (hv : SRow w b vs) (hn : n = min ks.length vs.length) (hN : n ≤ 4096) :
    Calls Efbg.prog 11 #[.slice a ks.length c, .slice b vs.length d, .int .i64 n] w fun e w' => ElemsEnd id (els ks vs) w e w' := by
  have hel : (els ks vs).length = n := by rw [els_length]; exact hn.symm
  have hnk : n ≤ ks.length := by omega
  have hnv : n ≤ vs.length := by omega
  have HE := hid hel
  clear hn hel
  obtain ⟨i0, hi, hz0, hz1, hz2⟩ := info_parts Efbg.info35
  go_enter Efbg.func11, Efbg.ntmps11
  go_wp2_with (at_make; refine wpList_make_own _ rfl _ _ 28 rfl w.heap.size 35 i0 (.pointer none) 1 Efbg.underlying28 hi hz0 hz1 _ _ _ n rfl rfl rfl (by rw [hz2]; omega) (by unfold maxLen; omega) (Nat.le_refl _) ?_; intro w0 hown0 hgrow0)
  have HO0 := hid hown0
  have HB0 : Hid (Below w.heap.size w w0) := (Below.refl _ _).grown hgrow0 (Nat.le_refl _) (fun k hk => by cases hk)
  clear hown0 hgrow0
  go_loopw [7, 8] (fun v i wr => ∃ k : Nat, k ≤ n ∧ v = .slice (some ⟨w.heap.size, 0, none⟩) k n ∧ i = .int .i64 k ∧ Hid (∃ L, Made wr w.heap.size n ((els ks vs).take k) L) ∧ Hid (Below w.heap.size w wr)) (fun _ i _ => n - (intOf i).toNat)
  case atStart => exact ⟨0, Nat.zero_le _, rfl, rfl, ⟨[], Made.start HO0.out⟩, HB0⟩
  case round =>
    obtain ⟨k, hkn, rfl, rfl, HM, HB⟩ := hrel
    by_cases hlt : k < n
    · obtain ⟨ba, oa, x, hx, rfl, hba, hcx⟩ := (hk.below HB.out).at (k := k) (by omega)
      obtain ⟨bb, ob, y, hy, rfl, -, hcy⟩ := (hv.below HB.out).at (k := k) (by omega)
      have HT := hid (els_take_succ ks vs k x y hx hy)
      obtain ⟨L, hM⟩ := HM.out
      have hlk : ((els ks vs).take k).length = k := by rw [List.length_take, HE.out]; omega
      have hown := hM.1
      rw [hlk] at hown
      have hBs : w.heap.size < wr.heap.size := by
        rcases hown.2 with ⟨h, -⟩ | ⟨g, cap, cur, hv, -, hg, -⟩
        · cases h
        · simp only [Value.slice.injEq, Option.some.injEq, Addr.mk.injEq] at hv
          obtain ⟨⟨rfl, -⟩, -, rfl⟩ := hv
          exact (Array.getElem?_eq_some_iff.1 hg).1
      have HO := hid hown
      have HMM := hid hM
      have HLK := hid hlk
      have h1 : k < ks.length := by omega
      have h2 : k < vs.length := by omega
      have h1' : (k : Int) < (ks.length : Int) := by omega
      have h2' : (k : Int) < (vs.length : Int) := by omega
      have hcx' : ∀ o, (wr.alloc o).cell? ⟨ba, oa + k, none⟩ = some (.string x) := fun o => (World.cell?_alloc_past o ba (oa + k) hba).trans hcx
      clear hown hM hlk HM hx hy hk hv hba
      go_wp2
      go_region_law (refine step_append_fits rfl (.tmp 16) (.tmp 30) 28 rfl w.heap.size 35 i0 1 Efbg.underlying28 hi hz1 w.heap.size k n L rfl ⟨wr.heap.size + 1 + 1, 0, none⟩ 1 1 [.pointer (some ⟨wr.heap.size + 1, 0, none⟩)] rfl rfl (by intro u hu; simp at hu; subst hu; rfl) (by omega) (by exact nodeW_owns HO.out ⟨x, y, 0, 0⟩ 0) (by exact nodeW_new wr ⟨x, y, 0, 0⟩ 0) ?_; intro w3 hown3 hgrow3)
      all_goals
        have hM3 := (HMM.out).step ⟨x, y, 0, 0⟩ 0 hBs (by rw [HLK.out]; exact hown3) hgrow3
        rw [← HT.out] at hM3
        have R1 : Hid (∃ L, Made w3 w.heap.size n ((els ks vs).take (k + 1)) L) := ⟨_, hM3⟩
        have R2 : Hid (Below w.heap.size w w3) := ((HB.out.trans ((nodeW_below wr ⟨x, y, 0, 0⟩ 0).mono HB.out.size)).drew).grown hgrow3 (by show _ ≤ (nodeW wr ⟨x, y, 0, 0⟩ 0).heap.size; rw [nodeW_size]; have := HB.out.size; omega) (fun j hj => by cases hj; exact Nat.le_refl _)
        clear hM3 hown3 hgrow3
        go_wp2
        go_roundw
        case rel => exact ⟨k + 1, by omega, rfl, by go_num, R1, R2⟩
        case measure => simp [intOf]; omega
    · have hke : k = n := by omega
      subst hke
      obtain ⟨L, hM⟩ := HM.out
      rw [List.take_of_length_le (by rw [HE.out]; exact Nat.le_refl _)] at hM
      have HM' := hid hM
      clear hM
      go_wp2
      go_ret
      exact ElemsEnd.of HE.out HM'.out.els HB.out

end Go.Proofs.Yoefbw
