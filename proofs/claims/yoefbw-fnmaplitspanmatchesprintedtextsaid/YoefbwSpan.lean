import Derived.Test.YoefbwSpanP
import Derived.Test.YoefbwElemsW
import Derived.Test.YoefbwBytes
import Derived.Test.YoefbwSize
namespace Go.Proofs.Yoefbw
open Go.RowKit

set_option linter.unusedSimpArgs false in
set_option maxRecDepth 100000 in
set_option maxHeartbeats 8000000 in
theorem span_walk (a b : Option Addr) (c d : Nat) (ks vs : List ByteArray) (z : Int) (w : World) (hza : -2147483648 ≤ z) (hzb : z ≤ 2147483647) (hk : SRow w a ks) (hv : SRow w b vs) :
    Calls Efbg.prog 5 #[.slice a ks.length c, .slice b vs.length d, .int .i32 z] w fun e w' => e = .returned (.bool true) ∧ Below w.heap.size w w' := by
  go_enter Efbg.func5, Efbg.ntmps5
  go_wp2_with fail
  refine (bytes14_any a b c d ks vs z _ hk hv).mono ?_
  rintro e w' ⟨r, rfl, hr, rfl⟩
  cases r with
  | false =>
    go_wp2
    go_ret
    exact ⟨rfl, Below.refl _ _⟩
  | true =>
    have hsum := hr rfl
    clear hr
    by_cases g1 : (4096 : Int) < (ks.length : Int)
    · go_wp2
      go_ret
      exact ⟨rfl, Below.refl _ _⟩
    by_cases g2 : (4096 : Int) < (vs.length : Int)
    · go_wp2
      go_ret
      exact ⟨rfl, Below.refl _ _⟩
    have hS := size_any a b c d ks vs w' hk hv hsum
    generalize hN : (16 * ks.length + 16 * vs.length + sz ks + sz vs : Nat) = N at hS
    go_wp2_with fail
    refine hS.mono ?_
    rintro e w1 ⟨rfl, rfl⟩
    by_cases g3 : (1048576 : Int) < (N : Int)
    · go_wp2
      go_ret
      exact ⟨rfl, Below.refl _ _⟩
    by_cases g4 : (2143289343 : Int) < z
    · go_wp2
      go_ret
      exact ⟨rfl, Below.refl _ _⟩
    have HK := hid hk
    have HV := hid hv
    have HS := hid hS
    have HNN := hid hN
    have hkl : ks.length ≤ 1048576 := by omega
    have hvl : vs.length ≤ 1048576 := by omega
    have hN1 : N ≤ 1048576 := by omega
    clear hk hv hS hN
    go_wp2_with fail
    refine (clone_any a c ks _ HK.out hkl).mono ?_
    rintro e w2 ⟨a2, c2, rfl, hk2, hb2⟩
    have HK2 := hid hk2
    have HB2 := hid hb2
    clear hk2 hb2
    go_wp2_with fail
    refine (clone_any b d vs _ (HV.out.below HB2.out) hvl).mono ?_
    rintro e w3 ⟨b3, d3, rfl, hv3, hb3⟩
    have HK3 := hid (HK2.out.below hb3)
    have HV3 := hid hv3
    have HB3 : Hid (Below w1.heap.size w1 w3) := HB2.out.trans (hb3.mono HB2.out.size)
    clear hv3 hb3 HK2 HB2 HK HV HS
    have hlk : (els ks vs).length = min ks.length vs.length := els_length ks vs
    have hszE : szE (els ks vs) ≤ 1048576 := by have := szE_els ks vs; omega
    have hmin : min ks.length vs.length ≤ 4096 := by omega
    generalize hM : min ks.length vs.length = M at hlk hmin
    have HM := hid hM
    have HL := hid hlk
    clear hM hlk
    go_wp2_with fail
    refine (pairs_any a2 b3 ks.length vs.length c2 d3 w3).mono ?_
    rintro e w5 ⟨rfl, rfl⟩
    rw [HM.out]
    obtain ⟨i4, hi, hz0, hz1, hz2⟩ := info_parts Efbg.info35
    obtain ⟨ys, hys⟩ : ∃ ys, ys = els ks vs := ⟨_, rfl⟩
    rw [← hys] at HL hszE
    have HY := hid hys
    clear hys
    go_wp2_with (at_make; refine wpList_make_own _ rfl _ _ 28 rfl w5.heap.size 35 i4 (.pointer none) 1 Efbg.underlying28 hi hz0 hz1 _ _ _ M rfl rfl rfl (by rw [hz2]; omega) (by unfold maxLen; omega) (Nat.le_refl _) ?_; intro w9 hown9 hgrow9)
    have HM9 : Hid (∃ L, Made w9 w5.heap.size M ((posEls z ys).take 0) L) := ⟨[], Made.start hown9⟩
    have HB9 : Hid (Below w5.heap.size w5 w9) := (Below.refl _ _).grown hgrow9 (Nat.le_refl _) (fun k hk => by cases hk)
    clear hown9 hgrow9
    go_loopw [8, 10, 11] (fun p v i wr => ∃ k : Nat, k ≤ M ∧ p = .int .i64 (z + ((preL ys k).length : Nat)) ∧ v = .slice (some ⟨w5.heap.size, 0, none⟩) k M ∧ i = .int .i64 k ∧ Hid (∃ L, Made wr w5.heap.size M ((posEls z ys).take k) L) ∧ Hid (Below w5.heap.size w5 wr)) (fun _ _ i _ => M - (intOf i).toNat)
    case atStart => exact ⟨0, Nat.zero_le _, rfl, rfl, rfl, HM9, HB9⟩
    case round =>
      obtain ⟨k, hkM, rfl, rfl, rfl, HMr, HBr⟩ := hrel
      have hql : (preL ys k).length ≤ 1065984 := by have := preL_length_le ys k; have := HL.out; omega
      by_cases hlt : k < M
      · have hk1 : k < ks.length := by have := HM.out; omega
        have hv1 : k < vs.length := by have := HM.out; omega
        obtain ⟨ba, oa, x, hx, rfl, hba, hcx⟩ := (HK3.out.below HBr.out).at hk1
        obtain ⟨bb, ob, y, hy, rfl, -, hcy⟩ := (HV3.out.below HBr.out).at hv1
        have hxs : x.size ≤ 1048576 := by have := sz_mem ks k x hx; omega
        have hysz : y.size ≤ 1048576 := by have := sz_mem vs k y hy; omega
        have hel : ys[k]? = some ⟨x, y, 0, 0⟩ := by rw [HY.out]; simp [els, List.getElem?_zipWith, hx, hy]
        have ht := posEls_take_succ z ys k ⟨x, y, 0, 0⟩ hel
        have hq1 := preL_step_length ys k ⟨x, y, 0, 0⟩ hel
        obtain ⟨L, hM⟩ := HMr.out
        have hlk : ((posEls z ys).take k).length = k := by rw [List.length_take, posEls_length, HL.out]; omega
        have hown := hM.1
        rw [hlk] at hown
        have hBs : w5.heap.size < wr.heap.size := by
          rcases hown.2 with ⟨h, -⟩ | ⟨g, cap, cur, hv, -, hg, -⟩
          · cases h
          · simp only [Value.slice.injEq, Option.some.injEq, Addr.mk.injEq] at hv
            obtain ⟨⟨rfl, -⟩, -, rfl⟩ := hv
            exact (Array.getElem?_eq_some_iff.1 hg).1
        have HO := hid hown
        have HMM := hid hM
        have HLK := hid hlk
        have h1' : (k : Int) < (ks.length : Int) := by omega
        have h2' : (k : Int) < (vs.length : Int) := by omega
        have hcx' : ∀ o, (wr.alloc o).cell? ⟨ba, oa + k, none⟩ = some (.string x) := fun o => (World.cell?_alloc_past o ba (oa + k) hba).trans hcx
        clear hown hM hlk HMr hx hy hba hel
        by_cases hk0 : k = 0
        · subst hk0
          have ho : offK ys 0 = (preL ys 0).length := by simp [offK]
          simp only [posEl, ho] at ht hq1
          obtain ⟨q, hq⟩ : ∃ q, q = (preL ys 0).length := ⟨_, rfl⟩
          rw [← hq] at ht hq1 hql ⊢
          have HT := hid ht
          have HQ1 := hid hq1
          simp only [Nat.add_zero] at hcx hcy hcx'
          clear ht hq1 hq ho
          go_wp2
          go_region_law (refine step_append_fits rfl (.tmp 86) (.tmp 103) 28 rfl w5.heap.size 35 i4 1 Efbg.underlying28 hi hz1 w5.heap.size 0 M L rfl ⟨wr.heap.size + 1 + 1, 0, none⟩ 1 1 [.pointer (some ⟨wr.heap.size + 1, 0, none⟩)] rfl rfl (by intro u hu; simp at hu; subst hu; rfl) (by omega) (by exact nodeW_owns HO.out ⟨x, y, z + (q : Int), z + (q : Int) + (x.size : Int) + 2⟩ (z + (q : Int) + (x.size : Int))) (by exact nodeW_new wr ⟨x, y, z + (q : Int), z + (q : Int) + (x.size : Int) + 2⟩ (z + (q : Int) + (x.size : Int))) ?_; intro w3' hown3 hgrow3)
          all_goals
            have hM3 := (HMM.out).step ⟨x, y, z + (q : Int), z + (q : Int) + (x.size : Int) + 2⟩ (z + (q : Int) + (x.size : Int)) hBs (by rw [HLK.out]; exact hown3) hgrow3
            rw [← HT.out] at hM3
            have R1 : Hid (∃ L, Made w3' w5.heap.size M ((posEls z ys).take 1) L) := ⟨_, hM3⟩
            have R2 : Hid (Below w5.heap.size w5 w3') := ((HBr.out.trans ((nodeW_below wr ⟨x, y, z + (q : Int), z + (q : Int) + (x.size : Int) + 2⟩ (z + (q : Int) + (x.size : Int))).mono HBr.out.size)).drew).grown hgrow3 (by show _ ≤ (nodeW wr ⟨x, y, z + (q : Int), z + (q : Int) + (x.size : Int) + 2⟩ (z + (q : Int) + (x.size : Int))).heap.size; rw [nodeW_size]; have := HBr.out.size; omega) (fun j hj => by cases hj; exact Nat.le_refl _)
            clear hM3 hown3 hgrow3
            go_wp2
            go_roundw
            case rel => exact ⟨1, by omega, by rw [HQ1.out]; go_num, rfl, by go_num, R1, R2⟩
            case measure => simp [intOf]; omega
        · have hkp : (0 : Int) < (k : Int) := by omega
          have ho : offK ys k = (preL ys k).length + 2 := by simp [offK, hk0]
          simp only [posEl, ho] at ht hq1
          obtain ⟨q, hq⟩ : ∃ q, q = (preL ys k).length := ⟨_, rfl⟩
          rw [← hq] at ht hq1 hql ⊢
          have e1 : z + ((q + 2 : Nat) : Int) = z + (q : Int) + 2 := by omega
          rw [e1] at ht
          have HT := hid ht
          have HQ1 := hid hq1
          clear ht hq1 hq ho e1
          go_wp2
          go_region_law (refine step_append_fits rfl (.tmp 86) (.tmp 103) 28 rfl w5.heap.size 35 i4 1 Efbg.underlying28 hi hz1 w5.heap.size k M L rfl ⟨wr.heap.size + 1 + 1, 0, none⟩ 1 1 [.pointer (some ⟨wr.heap.size + 1, 0, none⟩)] rfl rfl (by intro u hu; simp at hu; subst hu; rfl) (by omega) (by exact nodeW_owns HO.out ⟨x, y, z + (q : Int) + 2, z + (q : Int) + 2 + (x.size : Int) + 2⟩ (z + (q : Int) + 2 + (x.size : Int))) (by exact nodeW_new wr ⟨x, y, z + (q : Int) + 2, z + (q : Int) + 2 + (x.size : Int) + 2⟩ (z + (q : Int) + 2 + (x.size : Int))) ?_; intro w3' hown3 hgrow3)
          all_goals
            have hM3 := (HMM.out).step ⟨x, y, z + (q : Int) + 2, z + (q : Int) + 2 + (x.size : Int) + 2⟩ (z + (q : Int) + 2 + (x.size : Int)) hBs (by rw [HLK.out]; exact hown3) hgrow3
            rw [← HT.out] at hM3
            have R1 : Hid (∃ L, Made w3' w5.heap.size M ((posEls z ys).take (k + 1)) L) := ⟨_, hM3⟩
            have R2 : Hid (Below w5.heap.size w5 w3') := ((HBr.out.trans ((nodeW_below wr ⟨x, y, z + (q : Int) + 2, z + (q : Int) + 2 + (x.size : Int) + 2⟩ (z + (q : Int) + 2 + (x.size : Int))).mono HBr.out.size)).drew).grown hgrow3 (by show _ ≤ (nodeW wr ⟨x, y, z + (q : Int) + 2, z + (q : Int) + 2 + (x.size : Int) + 2⟩ (z + (q : Int) + 2 + (x.size : Int))).heap.size; rw [nodeW_size]; have := HBr.out.size; omega) (fun j hj => by cases hj; exact Nat.le_refl _)
            clear hM3 hown3 hgrow3
            go_wp2
            go_roundw
            case rel => exact ⟨k + 1, by omega, by rw [HQ1.out]; go_num, rfl, by go_num, R1, R2⟩
            case measure => simp [intOf]; omega
      · have hke : k = M := by omega
        subst hke
        obtain ⟨L, hM⟩ := HMr.out
        have htk : (posEls z ys).take k = posEls z ys := List.take_of_length_le (by rw [posEls_length, HL.out]; exact Nat.le_refl _)
        rw [htk] at hM
        have HE := hid hM.els
        clear hM htk HMr
        obtain ⟨Q, hQ⟩ : ∃ Q, Q = (preL ys k).length := ⟨_, rfl⟩
        rw [← hQ] at hql ⊢
        have mn := maplit_new (.int .i64 z) (.int .i64 (z + (Q : Int))) (some ⟨w5.heap.size, 0, none⟩) k (posEls z ys) wr HE.out (by rw [posEls_length, HL.out]; exact hmin) (by rw [szE_posEls]; exact hszE)
        rw [posEls_length, HL.out, pairs_posEls] at mn
        obtain ⟨S, hS⟩ : ∃ S, S = litB 123 125 (pairs ys) := ⟨_, rfl⟩
        rw [← hS] at mn
        have hsS : (S.size : Int) = (Q : Int) + 1 := by rw [hS, text_size ys k HL.out, hQ]; omega
        have HQ := hid hQ
        have HSS := hid hS
        have MN := hid mn
        clear mn hS hQ
        go_wp2_with fail
        refine MN.out.mono ?_
        rintro e w10 ⟨rfl, hb10, hlt10, hm0, hm2⟩
        have HB10 := hid hb10
        clear hb10 MN
        have hQ1 : 1 ≤ Q := by rw [HQ.out, preL, List.length_cons]; omega
        go_wp2_with (first | (go_at_call 15; refine (mpos_any _ z _ hm0).mono ?_; rintro e w' ⟨rfl, rfl⟩) | (go_at_call 16; refine (mend_any _ (z + (Q : Int)) _ hm2 (by omega) (by omega)).mono ?_; rintro e w' ⟨rfl, rfl⟩))
        go_loopw [17, 18] (fun p i wx => ∃ j : Nat, j ≤ k ∧ p = .int .i64 (z + ((preL ys j).length : Nat)) ∧ i = .int .i64 j ∧ Hid (Still w10 wx)) (fun _ i _ => k - (intOf i).toNat)
        case atStart => exact ⟨0, Nat.zero_le _, rfl, rfl, ⟨0, rfl⟩⟩
        case round =>
          obtain ⟨j, hjk, rfl, rfl, HSt⟩ := hrel
          by_cases hlt : j < k
          · have hk1 : j < ks.length := by have := HM.out; omega
            have hv1 : j < vs.length := by have := HM.out; omega
            obtain ⟨ba, oa, x, hx, rfl, -, hcx⟩ := ((HK3.out.below HBr.out).below HB10.out).at hk1
            obtain ⟨bb, ob, y, hy, rfl, -, hcy⟩ := ((HV3.out.below HBr.out).below HB10.out).at hv1
            have hxs : x.size ≤ 1048576 := by have := sz_mem ks j x hx; omega
            have hysz : y.size ≤ 1048576 := by have := sz_mem vs j y hy; omega
            have hel : ys[j]? = some ⟨x, y, 0, 0⟩ := by rw [HY.out]; simp [els, List.getElem?_zipWith, hx, hy]
            obtain ⟨be, oe, x', hx', hae, -, bm, bi, hce, -, -, -, hkp, h3, hvc, hvp⟩ := (HE.out.below HB10.out).at (k := j) (by rw [posEls_length, HL.out]; exact hlt)
            rw [posEls_get z ys j _ hel] at hx'
            cases hx'
            cases hae
            simp only [posEl, id_eq, Nat.zero_add] at hce hkp hvc hvp
            obtain ⟨he1, he2⟩ := text_at ys S HSS.out j _ hel
            have hq1 := preL_step_length ys j _ hel
            have hqo := preL_le_offK ys j
            have hqQ := preL_mono ys (j + 1) k (by omega) (by rw [HL.out]; exact Nat.le_refl _)
            rw [← HQ.out] at hqQ
            simp only at he1 he2 hq1
            obtain ⟨o, ho⟩ : ∃ o, o = offK ys j := ⟨_, rfl⟩
            obtain ⟨q, hq⟩ : ∃ q, q = (preL ys j).length := ⟨_, rfl⟩
            rw [← ho] at hkp hvp he1 he2 hq1 hqo
            rw [← hq] at hqo ⊢
            rw [hq1] at hqQ
            have HQ1 := hid hq1
            obtain ⟨m, rfl⟩ := HSt.out
            clear hx hy hel hq1 HSt ho hq
            have h1' : (j : Int) < (ks.length : Int) := by omega
            have h2' : (j : Int) < (vs.length : Int) := by omega
            have h3' : (j : Int) < (k : Int) := by omega
            have hko : z + (o : Int) - z = (o : Int) := by omega
            have hvo0 : z + (o : Int) + (x.size : Int) + 2 + (y.size : Int) - (y.size : Int) = z + (o : Int) + (x.size : Int) + 2 := by omega
            have hvo : z + (o : Int) + (x.size : Int) + 2 - z = (o : Int) + (x.size : Int) + 2 := by omega
            have hd1 : decide ((o : Int) < 0) = false := decide_eq_false (by omega)
            have hd2 : decide ((Q : Int) + 1 < (o : Int) + (x.size : Int)) = false := decide_eq_false (by omega)
            have hd3 : decide ((o : Int) + (x.size : Int) + 2 < 0) = false := decide_eq_false (by omega)
            have hd4 : decide ((Q : Int) + 1 < (o : Int) + (x.size : Int) + 2 + (y.size : Int)) = false := decide_eq_false (by omega)
            have hbo1 : o ≤ o + x.size := by omega
            have hbo2 : o + x.size ≤ S.size := by omega
            have hbv1 : o + x.size + 2 ≤ o + x.size + 2 + y.size := by omega
            have hbv2 : o + x.size + 2 + y.size ≤ S.size := by omega
            go_wp2_with (first | (go_at_call 17; refine (epos_any bm (z + (o : Int)) _ (by exact hkp)).mono ?_; rintro e w' ⟨rfl, rfl⟩) | (go_at_call 18; refine (eend_any bm bi y (z + (o : Int) + (x.size : Int) + 2) (z + (o : Int) + (x.size : Int) + 2 + (y.size : Int)) _ (by exact h3) (by exact hvc) (by exact hvp) (by omega) (by omega) (by omega) rfl).mono ?_; rintro e w' ⟨rfl, n, rfl⟩) | (go_at_call 16; refine (mend_any _ (z + (Q : Int)) _ (by exact hm2) (by omega) (by omega)).mono ?_; rintro e w' ⟨rfl, rfl⟩))
            go_quiet (fail)
            go_wp2
            go_quiet ((go_at_call 18; exact quiet_drewN (eend_any bm bi y (z + (o : Int) + (x.size : Int) + 2) (z + (o : Int) + (x.size : Int) + 2 + (y.size : Int)) _ (by exact h3) (by exact hvc) (by exact hvp) (by omega) (by omega) (by omega) rfl)))
            go_wp2
            go_quiet (fail)
            go_wp2
            go_roundw
            case rel => exact ⟨j + 1, by omega, by rw [HQ1.out]; go_num, by go_num, by first | exact ⟨_, rfl⟩ | exact ⟨_, by simp only [World.drewN_drewN]; rfl⟩⟩
            case measure => simp [intOf]; omega
          · go_wp2
            go_ret
            exact ⟨rfl, ((HB3.out.trans (HBr.out.mono HB3.out.size)).trans (HB10.out.mono (HB3.out.trans (HBr.out.mono HB3.out.size)).size)).trans (HSt.out.below _)⟩

end Go.Proofs.Yoefbw
