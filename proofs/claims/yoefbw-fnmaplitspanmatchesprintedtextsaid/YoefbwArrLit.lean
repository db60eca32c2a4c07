import Derived.Test.YoefbwMapLit
namespace Go.Proofs.Yoefbw
open Go.RowKit

set_option maxHeartbeats 1000000 in
theorem arraylit_any (bl : Nat) (a : Option Addr) (c : Nat) (xs : List El) (w : World) (hc : w.cell? ⟨bl, 0, none⟩ = some (.slice a xs.length c)) (hE : Els (Value.iface 35) w a xs)
    (hN : xs.length ≤ 4096) (hs : ∀ x ∈ xs, x.k.size + x.v.size ≤ 1048576) (hlen : (joinB (pairs xs)).size ≤ 1073741824) :
    Calls Efbg.prog 13 #[.pointer (some ⟨bl, 0, none⟩)] w fun e w' => e = .returned (.string (litB 91 93 (pairs xs))) ∧ Below w.heap.size w w' := by
  have ha1 : ∀ W, (Op.stringOp .add ⟨#[91]⟩ (joinB (pairs xs))).run Efbg.prog W = .ok (.string (ByteArray.mk #[91] ++ joinB (pairs xs))) W := fun W => run_string_add_sum W _ _ (by show 1 + _ ≤ _; omega)
  have ha2 : ∀ W, (Op.stringOp .add (ByteArray.mk #[91] ++ joinB (pairs xs)) ⟨#[93]⟩).run Efbg.prog W = .ok (.string (litB 91 93 (pairs xs))) W := fun W => run_string_add_sum W _ _ (by rw [ByteArray.size_append]; show 1 + _ + 1 ≤ _; omega)
  have hm : ∀ (a : Addr) (W : World), (method 176 35 (.pointer (some a)) "String").run Efbg.prog W = .ok (19, .pointer (some a)) W := fun _ _ => by kernel_rfl
  obtain ⟨i0, hi, hz0, hz1, hz2⟩ := info_parts Efbg.info9
  go_enter Efbg.func13, Efbg.ntmps13
  go_wp2
  go_loopw [3, 11] (fun v i wr => ∃ k : Nat, k ≤ xs.length ∧ i = .int .i64 k ∧ Hid (wr.ownsRow w.heap.size 9 1 v k (((pairs xs).take k).map Value.string)) ∧ Hid (Below w.heap.size w wr)) (fun _ i _ => xs.length - (intOf i).toNat)
  case atStart => exact ⟨0, Nat.zero_le _, rfl, World.ownsRow_nil _ _ _ _, Below.refl _ _⟩
  case round =>
    obtain ⟨k, hk, rfl, HO, HB⟩ := hrel
    by_cases hlt : k < xs.length
    · obtain ⟨b, off, x, hx, rfl, hbl, bm, bi, h1, h2, h3, h4, h5, h6, h7, h8⟩ := (hE.below HB.out).at hlt
      have hxs : x.k.size + x.v.size ≤ 1048576 := hs x (List.mem_of_getElem? hx)
      have HX := hid hx
      clear hx h2 h3 h5 h8 hbl ha1 ha2
      go_wp2_with fail
      refine (elem_still bm bi x.k x.v _ h4 h6 h7 hxs).mono ?_
      rintro e w2 ⟨rfl, hst⟩
      have HS := hid hst
      clear hst h1 h4 h6 h7
      go_wp2_with (at_builtin; refine wpList_append_own _ rfl _ _ 22 rfl w.heap.size 9 i0 (.string ⟨#[]⟩) 1 16 Efbg.underlying22 hi hz0 hz1 hz2 rfl (by decide) _ _ _ rfl ((HS.out.owns HO.out).alloc _) ⟨w2.heap.size, 0, none⟩ 1 1 [.string (pairB x.k x.v)] rfl rfl (cell_one_new _ _ _) (by intro u hu; simp at hu; subst hu; rfl) (by unfold maxLen; omega) (by omega) (by have := HB.out.size; have := (HS.out.below 0).size; simp; omega) ?_; intro v' w3 hown' hgrow _)
      have R := hid (gather_round (v := u3) HX.out HB.out HS.out HO.out _ hown' hgrow)
      clear hown' hgrow
      go_roundw
      case rel => exact ⟨k + 1, by omega, by go_num, R.out.1, R.out.2⟩
      case measure => simp [intOf]; omega
    · have hke : k = xs.length := by omega
      subst hke
      have hO := HO.out
      rw [List.take_of_length_le (by rw [pairs_length]; exact Nat.le_refl _), ← pairs_length] at hO
      have HO' := hid hO
      clear hO HO
      go_wp2_with fail
      refine (join_own w.heap.size _ (pairs xs) _ HO'.out (by rw [pairs_length]; omega) hlen).mono ?_
      rintro e w2 ⟨rfl, hb2⟩
      have HB2 := hid (HB.out.trans (hb2.mono HB.out.size))
      clear hb2
      go_wp2
      go_ret
      exact ⟨rfl, HB2.out⟩

end Go.Proofs.Yoefbw
