import Derived.Test.YoefbwAgreeP
import Derived.Test.YoefbwElemsW
import Derived.Test.YoefbwBytes
import Derived.Test.YoefbwSize
namespace Go.Proofs.Yoefbw
open Go.RowKit

set_option linter.unusedSimpArgs false in
set_option maxHeartbeats 2000000 in
theorem agree_walk (a b : Option Addr) (c d : Nat) (ks vs : List ByteArray) (w : World) (hk : SRow w a ks) (hv : SRow w b vs) :
    Calls Efbg.prog 4 #[.slice a ks.length c, .slice b vs.length d] w fun e w' => e = .returned (.bool true) ∧ Below w.heap.size w w' := by
  go_enter Efbg.func4, Efbg.ntmps4
  go_wp2_with fail
  refine (bytes12_any a b c d ks vs _ hk hv).mono ?_
  rintro e w' ⟨r, rfl, hr, rfl⟩
  cases r with
  | false =>
    go_wp2
    go_ret
    exact ⟨rfl, Below.refl _ _⟩
  | true =>
    have hsum := hr rfl
    clear hr
    by_cases g1 : (4096 : Int) < (ks.length : Int)
    · go_wp2
      go_ret
      exact ⟨rfl, Below.refl _ _⟩
    by_cases g2 : (4096 : Int) < (vs.length : Int)
    · go_wp2
      go_ret
      exact ⟨rfl, Below.refl _ _⟩
    have hS := size_any a b c d ks vs w' hk hv hsum
    generalize hN : (16 * ks.length + 16 * vs.length + sz ks + sz vs : Nat) = N at hS
    go_wp2_with fail
    refine hS.mono ?_
    rintro e w1 ⟨rfl, rfl⟩
    by_cases g3 : (1048576 : Int) < (N : Int)
    · go_wp2
      go_ret
      exact ⟨rfl, Below.refl _ _⟩
    have HK := hid hk
    have HV := hid hv
    have HS := hid hS
    have HNN := hid hN
    have hkl : ks.length ≤ 1048576 := by omega
    have hvl : vs.length ≤ 1048576 := by omega
    have hN1 : N ≤ 1048576 := by omega
    clear hk hv hS hN
    go_wp2_with fail
    refine (clone_any a c ks _ HK.out hkl).mono ?_
    rintro e w2 ⟨a2, c2, rfl, hk2, hb2⟩
    have HK2 := hid hk2
    have HB2 := hid hb2
    clear hk2 hb2
    go_wp2_with fail
    refine (clone_any b d vs _ (HV.out.below HB2.out) hvl).mono ?_
    rintro e w3 ⟨b3, d3, rfl, hv3, hb3⟩
    have HK3 := hid (HK2.out.below hb3)
    have HV3 := hid hv3
    have HB3 : Hid (Below w1.heap.size w1 w3) := HB2.out.trans (hb3.mono HB2.out.size)
    clear hv3 hb3 HK2 HB2 HK HV HS
    have hlk : (els ks vs).length = min ks.length vs.length := els_length ks vs
    have hszE : szE (els ks vs) ≤ 1048576 := by have := szE_els ks vs; omega
    have hmin : min ks.length vs.length ≤ 4096 := by omega
    generalize hM : min ks.length vs.length = M at hlk hmin
    have HM := hid hM
    have HL := hid hlk
    clear hM hlk
    go_wp2_with fail
    refine (pairs_any a2 b3 ks.length vs.length c2 d3 w3).mono ?_
    rintro e w5 ⟨rfl, rfl⟩
    rw [HM.out]
    go_wp2_with fail
    refine (elems_any a2 b3 c2 d3 ks vs M _ HK3.out HV3.out HM.out.symm hmin).mono ?_
    rintro e w6 ⟨a6, c6, rfl, hE6, hb6⟩
    have HE6 := hid hE6
    have HB6 : Hid (Below w1.heap.size w1 w6) := HB3.out.trans (hb6.mono HB3.out.size)
    clear hE6 hb6 HK3 HV3 HB3
    generalize hxs : els ks vs = xs at *
    rw [HL.out]
    clear hxs hsum
    obtain ⟨i4, hi, hz0, hz1, hz2⟩ := info_parts Efbg.info44
    go_wp2_with (at_make; refine wpList_make_own _ rfl _ _ 34 rfl w6.heap.size 44 i4 .nilIface 1 Efbg.underlying34 hi hz0 hz1 _ _ _ M rfl rfl rfl (by rw [hz2]; omega) (by unfold maxLen; omega) (Nat.le_refl _) ?_; intro w9 hown9 hgrow9)
    have H9 : Hid (∃ L, Listed w6 w9 w6.heap.size M xs 0 L) := ⟨[], Listed.start hown9⟩
    have HB9 : Hid (Below w6.heap.size w6 w9) := (Below.refl _ _).grown hgrow9 (Nat.le_refl _) (fun k hk => by cases hk)
    clear hown9 hgrow9
    go_loopw [7, 8] (fun v i wr => ∃ k : Nat, k ≤ M ∧ v = .slice (some ⟨w6.heap.size, 0, none⟩) k M ∧ i = .int .i64 k ∧ Hid (∃ L, Listed w6 wr w6.heap.size M xs k L) ∧ Hid (Below w6.heap.size w6 wr)) (fun _ i _ => M - (intOf i).toNat)
    case atStart => exact ⟨0, Nat.zero_le _, rfl, rfl, H9, HB9⟩
    case round =>
      obtain ⟨k, hkM, rfl, rfl, HLi, HBr⟩ := hrel
      by_cases hlt : k < M
      · obtain ⟨b6, o6, x, hx, rfl, -, bm, bi, hc, hnode⟩ := HE6.out.at (k := k) (by rw [HL.out]; exact hlt)
        simp only [id_eq] at hc
        have hcr := cell_later HBr.out hc
        have HN := hid (show NodeAt w6 bm x from ⟨bi, hnode⟩)
        have HX := hid hx
        obtain ⟨L, hL⟩ := HLi.out
        have HLL := hid hL
        have h1' : (k : Int) < (M : Int) := by omega
        clear hx hnode hL
        go_wp2_with (at_builtin; refine wpList_append_fits _ rfl (.tmp 47) (.tmp 53) 34 rfl w6.heap.size 44 i4 1 Efbg.underlying34 hi hz1 w6.heap.size k M L rfl (HLL.out.1.alloc _) ⟨wr.heap.size, 0, none⟩ 1 1 [.iface 35 (.pointer (some ⟨bm, 0, none⟩))] rfl rfl (cell_one_new _ _ _) (by intro u hu; simp at hu; subst hu; rfl) (by omega) ?_; intro w3' hown hgrow; have R1 : Hid (∃ L, Listed w6 w3' w6.heap.size M xs (k + 1) L) := ⟨_, HLL.out.step x HX.out HN.out hown⟩; have R2 : Hid (Below w6.heap.size w6 w3') := (HBr.out.alloc HBr.out.size _).grown hgrow (by have := HBr.out.size; simp; omega) (fun j hj => by cases hj; exact Nat.le_refl _); clear hown hgrow)
        go_roundw
        case rel => exact ⟨k + 1, by omega, rfl, by go_num, R1, R2⟩
        case measure => simp [intOf]; omega
      · have hke : k = M := by omega
        subst hke
        have mn := maplit_new (.int .i64 0) (.int .i64 0) a6 c6 xs wr (HE6.out.below HBr.out) (by rw [HL.out]; exact hmin) hszE
        rw [HL.out] at mn
        obtain ⟨L, hL⟩ := HLi.out
        rw [← HL.out] at hL
        have HEL := hid (hL.els HBr.out)
        clear hL
        obtain ⟨S, hS⟩ : ∃ S, S = litB 123 125 (pairs xs) := ⟨_, rfl⟩
        obtain ⟨T, hT⟩ : ∃ T, T = litB 91 93 (pairs xs) := ⟨_, rfl⟩
        rw [← hS] at mn
        have hsz : T.size = S.size := by rw [hS, hT, lit_size, lit_size]
        have hs2 : 2 ≤ S.size := by rw [hS, lit_size]; omega
        have hs3 : S.size ≤ 1073741824 := by rw [hS, lit_size]; have := innerL_length_le xs; have := HL.out; omega
        have f0 : ∀ h : 0 < S.size, ((S[0]'h).toNat : Int) = 123 := by subst hS; intro h; rw [lit_first]; rfl
        have f1 : ∀ h : 0 < T.size, ((T[0]'h).toNat : Int) = 91 := by subst hT; intro h; rw [lit_first]; rfl
        have f2 : ∀ h : S.size - 1 < S.size, ((S[S.size - 1]'h).toNat : Int) = 125 := by subst hS; intro h; rw [lit_last _ _ _ _ (by rw [lit_size]; omega)]; rfl
        have f3 : ∀ h : S.size - 1 < T.size, ((T[S.size - 1]'h).toNat : Int) = 93 := by rw [← hsz]; subst hT; intro h; rw [lit_last _ _ _ _ (by rw [lit_size]; omega)]; rfl
        have f4 : T.extract 1 (S.size - 1) = S.extract 1 (S.size - 1) := by
          refine toList_inj ?_
          have e1 := lit_inner 91 93 xs
          have e2 := lit_inner 123 125 xs
          rw [← hT] at e1
          rw [← hS] at e2
          rw [← hsz, e1, hsz, e2]
        have HSS := hid hS
        have HTT := hid hT
        have MN := hid mn
        clear mn hS hT
        go_wp2_with fail
        refine MN.out.mono ?_
        rintro e w10 ⟨rfl, hb10, -⟩
        have an := arraylit_new (.int .i64 0) (.int .i64 0) (some ⟨w6.heap.size, 0, none⟩) k xs w10 (HEL.out.below hb10) (by rw [HL.out]; exact hmin) hszE
        rw [HL.out, ← HTT.out] at an
        have AN := hid an
        have HB10 : Hid (Below w1.heap.size w1 w10) := HB6.out.trans ((HBr.out.trans (hb10.mono HBr.out.size)).mono HB6.out.size)
        clear an hb10 HE6 HEL HLi
        go_wp2_with fail
        refine AN.out.mono ?_
        rintro e w11 ⟨rfl, hb11⟩
        have HB11 : Hid (Below w1.heap.size w1 w11) := HB10.out.trans (hb11.mono HB10.out.size)
        clear hb11 MN AN
        go_wp2
        go_quiet (fail)
        go_wp2
        go_ret
        exact ⟨rfl, HB11.out.trans (Still.below ⟨_, rfl⟩ _)⟩

end Go.Proofs.Yoefbw
