import Derived.Test.YoefbwText
import Derived.Test.YoefbwElemsW
import Derived.Test.YoefbwBytes
import Derived.Test.YoefbwSize
import Derived.Lib.AppendStr
import Derived.Laws.IdiomStrings
namespace Go.Proofs.Yoefbw
open Go.RowKit

theorem Efbg.info5 : (Efbg.prog.info? 5).map (fun i => (i.zero, i.size, i.bytes)) = some (some (.int .u8 0), 1, 1) := by kernel_rfl

/-- The bytes that the call gathers, behind the world wM. -/
def Own (wM wr : World) (v : Value) (l : List UInt8) : Prop := wr.ownsRow wM.heap.size 5 1 v l.length (Lib.byteCells l) ∧ Below wM.heap.size wM wr

theorem own_row {base : Nat} {w : World} {e : TypeId} {size : Nat} {v : Value} {n : Nat} {xs : List Value} (h : w.ownsRow base e size v n xs) : ∀ k, v.ownBlock = some k → base ≤ k := by
  intro k hk
  rcases h.2 with ⟨rfl, -⟩ | ⟨g, cap, cur, rfl, hg, -⟩
  · cases hk
  · cases hk; exact hg

theorem own_byte {wM wr w1 : World} {v v' : Value} {l : List UInt8} {o : Obj} (b : UInt8) (h : Own wM wr v l)
    (hown : w1.ownsRow wM.heap.size 5 1 v' (l.length + 1) (Lib.byteCells l ++ [.int .u8 (b.toNat : Int)])) (hgrow : (wr.alloc o).grownBy w1 v.ownBlock) : Own wM w1 v' (l ++ [b]) := by
  refine ⟨?_, (h.2.alloc h.2.size o).grown hgrow (by simp; have := h.2.size; omega) (own_row h.1)⟩
  rw [Lib.byteCells_append, List.length_append]
  exact hown

theorem own_str {wM wr w1 : World} {v v' : Value} {l : List UInt8} (s : ByteArray) (h : Own wM wr v l)
    (hown : w1.ownsRow wM.heap.size 5 1 v' (l.length + s.size) (Lib.byteCells l ++ Lib.strCells s)) (hgrow : wr.grownBy w1 v.ownBlock) : Own wM w1 v' (l ++ s.data.toList) := by
  refine ⟨?_, h.2.grown hgrow h.2.size (own_row h.1)⟩
  rw [Lib.byteCells_append, List.length_append, size_toList]
  exact hown

theorem own_start {w w' : World} {n : Nat} (h : w'.ownsRow w.heap.size 5 1 (.slice (some ⟨w.heap.size, 0, none⟩) 0 n) 0 []) (hg : w.grownBy w' none) : Own w w' (.slice (some ⟨w.heap.size, 0, none⟩) 0 n) [] :=
  ⟨h, (Below.refl _ _).grown hg (Nat.le_refl _) (fun k hk => by cases hk)⟩

theorem oneU8 (n : Int) : ∀ u ∈ [Value.int .u8 n], u.oneCell' = true := by intro u hu; simp at hu; subst hu; rfl

theorem own_string {wM wr : World} {v : Value} {l : List UInt8} (h : Own wM wr v l) (h0 : l ≠ []) : (convert 33 9 v).run Efbg.prog wr = .ok (.string ⟨l.toArray⟩) wr := by
  rcases h.1.2 with ⟨rfl, hl⟩ | ⟨g, cap, cur, rfl, -, hg, hnc, -, hcs, htk⟩
  · exact absurd (List.eq_nil_of_length_eq_zero hl) h0
  · refine run_convert_bytes_back wr 33 9 5 ⟨g, 0, none⟩ cap l Efbg.underlying33 Efbg.underlying5 Efbg.underlying9 fun j hj => ?_
    have e : (⟨g, 0, none⟩ : Addr).add j = ⟨g, j, none⟩ := by simp [Addr.add]; exact fun h => h.symm
    rw [e]
    refine cell_row hg _ _ ?_
    have h1 : (Lib.byteCells l)[j]? = some (.int .u8 (l[j].toNat : Int)) := by simp [Lib.byteCells, hj]
    rw [← htk, List.getElem?_take] at h1
    split at h1
    · simpa using h1
    · cases h1

set_option linter.unusedSimpArgs false in
set_option maxHeartbeats 2000000 in
theorem model_walk (a b : Option Addr) (c d : Nat) (ks vs : List ByteArray) (w : World) (hk : SRow w a ks) (hv : SRow w b vs) :
    Calls Efbg.prog 3 #[.slice a ks.length c, .slice b vs.length d] w fun e w' => e = .returned (.bool true) ∧ Below w.heap.size w w' := by
  go_enter Efbg.func3, Efbg.ntmps3
  go_wp2_with fail
  refine (bytes6_any a b c d ks vs _ hk hv).mono ?_
  rintro e w' ⟨r, rfl, hr, rfl⟩
  cases r with
  | false =>
    go_wp2
    go_ret
    exact ⟨rfl, Below.refl _ _⟩
  | true =>
    have hsum := hr rfl
    clear hr
    by_cases g1 : (4096 : Int) < (ks.length : Int)
    · go_wp2
      go_ret
      exact ⟨rfl, Below.refl _ _⟩
    by_cases g2 : (4096 : Int) < (vs.length : Int)
    · go_wp2
      go_ret
      exact ⟨rfl, Below.refl _ _⟩
    have hS := size_any a b c d ks vs w' hk hv hsum
    generalize hN : (16 * ks.length + 16 * vs.length + sz ks + sz vs : Nat) = N at hS
    go_wp2_with fail
    refine hS.mono ?_
    rintro e w1 ⟨rfl, rfl⟩
    by_cases g3 : (1048576 : Int) < (N : Int)
    · go_wp2
      go_ret
      exact ⟨rfl, Below.refl _ _⟩
    have HK := hid hk
    have HV := hid hv
    have HS := hid hS
    have HNN := hid hN
    have hkl : ks.length ≤ 1048576 := by omega
    have hvl : vs.length ≤ 1048576 := by omega
    have hN1 : N ≤ 1048576 := by omega
    clear hk hv hS hN
    go_wp2_with fail
    refine (clone_any a c ks _ HK.out hkl).mono ?_
    rintro e w2 ⟨a2, c2, rfl, hk2, hb2⟩
    have HK2 := hid hk2
    have HB2 := hid hb2
    clear hk2 hb2
    go_wp2_with fail
    refine (clone_any b d vs _ (HV.out.below HB2.out) hvl).mono ?_
    rintro e w3 ⟨b3, d3, rfl, hv3, hb3⟩
    have HK3 := hid (HK2.out.below hb3)
    have HV3 := hid hv3
    have HB3 : Hid (Below w1.heap.size w1 w3) := HB2.out.trans (hb3.mono HB2.out.size)
    clear hv3 hb3 HK2 HB2 HK HV HS
    have hlk : (els ks vs).length = min ks.length vs.length := els_length ks vs
    have hszE : szE (els ks vs) ≤ 1048576 := by have := szE_els ks vs; omega
    have hmin : min ks.length vs.length ≤ 4096 := by omega
    generalize hM : min ks.length vs.length = M at hlk hmin
    have HM := hid hM
    have HL := hid hlk
    clear hM hlk
    go_wp2_with fail
    refine (maplit_zero w3).mono ?_
    rintro e w4 ⟨rfl, hb4⟩
    have HK4 := hid (HK3.out.below hb4)
    have HV4 := hid (HV3.out.below hb4)
    have HB4 : Hid (Below w1.heap.size w1 w4) := HB3.out.trans (hb4.mono HB3.out.size)
    clear hb4 HK3 HV3 HB3
    go_wp2_with fail
    refine (pairs_any a2 b3 ks.length vs.length c2 d3 w4).mono ?_
    rintro e w5 ⟨rfl, rfl⟩
    rw [HM.out]
    go_wp2_with fail
    refine (elems_any a2 b3 c2 d3 ks vs M _ HK4.out HV4.out HM.out.symm hmin).mono ?_
    rintro e w6 ⟨a6, c6, rfl, hE6, hb6⟩
    have HE6 := hid hE6
    have HK6 := hid (HK4.out.below hb6)
    have HV6 := hid (HV4.out.below hb6)
    have HB6 : Hid (Below w1.heap.size w1 w6) := HB4.out.trans (hb6.mono HB4.out.size)
    clear hE6 hb6 HK4 HV4 HB4
    go_wp2_with fail
    refine (maplit_new (.int .i64 1) (.int .i64 2) a6 c6 (els ks vs) w6 HE6.out (by rw [HL.out]; exact hmin) hszE).mono ?_
    rintro e w7 ⟨rfl, hb7, -⟩
    have HK7 := hid (HK6.out.below hb7)
    have HV7 := hid (HV6.out.below hb7)
    have HB7 : Hid (Below w1.heap.size w1 w7) := HB6.out.trans (hb7.mono HB6.out.size)
    clear hb7 HK6 HV6 HB6 HE6
    have hS := size_any a2 b3 c2 d3 ks vs w7 HK7.out HV7.out hsum
    rw [HNN.out] at hS
    go_wp2_with fail
    refine hS.mono ?_
    rintro e w8 ⟨rfl, rfl⟩
    clear hS
    obtain ⟨i5, hi, hz0, hz1, hz2⟩ := info_parts Efbg.info5
    go_wp2_with (first | (at_make; refine wpList_make_own _ rfl _ _ 33 rfl w8.heap.size 5 i5 (.int .u8 0) 1 Efbg.underlying33 hi hz0 hz1 _ _ _ (2 + N) rfl rfl (by omega) (by rw [hz2]; omega) (by unfold maxLen; omega) (Nat.le_refl _) ?_; intro w9 hown9 hgrow9; have H9 : Hid (Own w8 w9 (.slice (some ⟨w8.heap.size, 0, none⟩) 0 (2 + N)) []) := own_start hown9 hgrow9; clear hown9 hgrow9) | (at_builtin; refine wpList_append_own _ rfl (.tmp 54) (.tmp 55) 33 rfl w8.heap.size 5 i5 (.int .u8 0) 1 1 Efbg.underlying33 hi hz0 hz1 hz2 rfl (by decide) _ _ _ rfl (H9.out.1.alloc _) ⟨w9.heap.size, 0, none⟩ 1 1 [.int .u8 123] rfl rfl (cell_one_new _ _ _) (oneU8 _) (by unfold maxLen; (try simp only [List.length_append, List.length_cons, List.length_nil, size_toList]); omega) (by (try simp only [List.length_append, List.length_cons, List.length_nil, size_toList]); omega) (by have := H9.out.2.size; simp; omega) ?_; intro v10 w10 hown hgrow _; have H10 := hid (own_byte 123 H9.out hown hgrow); clear hown hgrow))
    have hxl : (els ks vs).length ≤ 4096 := by rw [HL.out]; exact hmin
    go_loopw [9, 10] (fun v i wr => ∃ k : Nat, k ≤ M ∧ i = .int .i64 k ∧ Hid (Own w8 wr v (preL (els ks vs) k))) (fun _ i _ => M - (intOf i).toNat)
    case atStart => exact ⟨0, Nat.zero_le _, rfl, H10⟩
    case round =>
      obtain ⟨k, hkM, rfl, HP⟩ := hrel
      have hpl : (preL (els ks vs) k).length ≤ 1065984 := by have := preL_length_le (els ks vs) k; omega
      by_cases hlt : k < M
      · have hk1 : k < ks.length := by have := HM.out; omega
        have hv1 : k < vs.length := by have := HM.out; omega
        obtain ⟨ba, oa, x, hx, rfl, -, hx8⟩ := HK7.out.at hk1
        obtain ⟨bb, ob, y, hy, rfl, -, hy8⟩ := HV7.out.at hv1
        have hxs : x.size ≤ 1048576 := by have := sz_mem ks k x hx; omega
        have hys : y.size ≤ 1048576 := by have := sz_mem vs k y hy; omega
        have hel : (els ks vs)[k]? = some ⟨x, y, 0, 0⟩ := by simp [els, List.getElem?_zipWith, hx, hy]
        have HEL := hid hel
        have h1' : (k : Int) < (ks.length : Int) := by omega
        have h2' : (k : Int) < (vs.length : Int) := by omega
        clear hx hy hel
        obtain ⟨l, hl⟩ : ∃ l, l = preL (els ks vs) k := ⟨_, rfl⟩
        rw [← hl] at HP hpl
        have HLL := hid hl
        have HO := HP
        have cx0 := cell_later HO.out.2 hx8
        have cy0 := cell_later HO.out.2 hy8
        clear hl HP
        by_cases hk0 : k = 0
        · subst hk0
          simp only [Nat.add_zero] at hx8 hy8 cx0 cy0
          go_wp2_with (first | (at_builtin; refine Lib.wpList_append_own_string _ rfl (.tmp 70) (.tmp 74) 33 9 rfl w8.heap.size 5 i5 Efbg.underlying33 Efbg.underlying9 hi hz0 hz1 hz2 _ _ _ rfl HO.out.1 x rfl (by unfold maxLen; (try simp only [List.length_append, List.length_cons, List.length_nil, size_toList]); omega) (by (try simp only [List.length_append, List.length_cons, List.length_nil, size_toList]); omega) HO.out.2.size ?_; intro va wa hown hgrow _; have HA := hid (own_str x HO.out hown hgrow); clear hown hgrow; have cxa := cell_later HA.out.2 hx8; have cya := cell_later HA.out.2 hy8) | (at_builtin; refine wpList_append_own _ rfl (.tmp 76) (.tmp 77) 33 rfl w8.heap.size 5 i5 (.int .u8 0) 1 1 Efbg.underlying33 hi hz0 hz1 hz2 rfl (by decide) _ _ _ rfl (HA.out.1.alloc _) ⟨wa.heap.size, 0, none⟩ 1 1 [.int .u8 58] rfl rfl (cell_one_new _ _ _) (oneU8 _) (by unfold maxLen; (try simp only [List.length_append, List.length_cons, List.length_nil, size_toList]); omega) (by (try simp only [List.length_append, List.length_cons, List.length_nil, size_toList]); omega) (by have := HA.out.2.size; simp; omega) ?_; intro vb wb hown hgrow _; have HBB := hid (own_byte 58 HA.out hown hgrow); clear hown hgrow; have cxb := cell_later HBB.out.2 hx8; have cyb := cell_later HBB.out.2 hy8) | (at_builtin; refine wpList_append_own _ rfl (.tmp 79) (.tmp 80) 33 rfl w8.heap.size 5 i5 (.int .u8 0) 1 1 Efbg.underlying33 hi hz0 hz1 hz2 rfl (by decide) _ _ _ rfl (HBB.out.1.alloc _) ⟨wb.heap.size, 0, none⟩ 1 1 [.int .u8 32] rfl rfl (cell_one_new _ _ _) (oneU8 _) (by unfold maxLen; (try simp only [List.length_append, List.length_cons, List.length_nil, size_toList]); omega) (by (try simp only [List.length_append, List.length_cons, List.length_nil, size_toList]); omega) (by have := HBB.out.2.size; simp; omega) ?_; intro vc wc hown hgrow _; have HC := hid (own_byte 32 HBB.out hown hgrow); clear hown hgrow; have cxc := cell_later HC.out.2 hx8; have cyc := cell_later HC.out.2 hy8) | (at_builtin; refine Lib.wpList_append_own_string _ rfl (.tmp 82) (.tmp 86) 33 9 rfl w8.heap.size 5 i5 Efbg.underlying33 Efbg.underlying9 hi hz0 hz1 hz2 _ _ _ rfl HC.out.1 y rfl (by unfold maxLen; (try simp only [List.length_append, List.length_cons, List.length_nil, size_toList]); omega) (by (try simp only [List.length_append, List.length_cons, List.length_nil, size_toList]); omega) HC.out.2.size ?_; intro vd wd hown hgrow _; have HD := hid (own_str y HC.out hown hgrow); clear hown hgrow; have cxd := cell_later HD.out.2 hx8; have cyd := cell_later HD.out.2 hy8))
          have R := HD.out
          rw [HLL.out, ← preL_first (els ks vs) ⟨x, y, 0, 0⟩ HEL.out] at R
          have HR := hid R
          clear R
          go_roundw
          case rel => exact ⟨1, by omega, by go_num, HR⟩
          case measure => simp [intOf]; omega
        · have hkp : (0 : Int) < (k : Int) := by omega
          go_wp2_with (first | (at_builtin; refine wpList_append_own _ rfl (.tmp 64) (.tmp 65) 33 rfl w8.heap.size 5 i5 (.int .u8 0) 1 1 Efbg.underlying33 hi hz0 hz1 hz2 rfl (by decide) _ _ _ rfl (HO.out.1.alloc _) ⟨wr.heap.size, 0, none⟩ 1 1 [.int .u8 44] rfl rfl (cell_one_new _ _ _) (oneU8 _) (by unfold maxLen; (try simp only [List.length_append, List.length_cons, List.length_nil, size_toList]); omega) (by (try simp only [List.length_append, List.length_cons, List.length_nil, size_toList]); omega) (by have := HO.out.2.size; simp; omega) ?_; intro ve we hown hgrow _; have HEE := hid (own_byte 44 HO.out hown hgrow); clear hown hgrow; have cxe := cell_later HEE.out.2 hx8; have cye := cell_later HEE.out.2 hy8) | (at_builtin; refine wpList_append_own _ rfl (.tmp 67) (.tmp 68) 33 rfl w8.heap.size 5 i5 (.int .u8 0) 1 1 Efbg.underlying33 hi hz0 hz1 hz2 rfl (by decide) _ _ _ rfl (HEE.out.1.alloc _) ⟨we.heap.size, 0, none⟩ 1 1 [.int .u8 32] rfl rfl (cell_one_new _ _ _) (oneU8 _) (by unfold maxLen; (try simp only [List.length_append, List.length_cons, List.length_nil, size_toList]); omega) (by (try simp only [List.length_append, List.length_cons, List.length_nil, size_toList]); omega) (by have := HEE.out.2.size; simp; omega) ?_; intro vf wf hown hgrow _; have HF := hid (own_byte 32 HEE.out hown hgrow); clear hown hgrow; have cxf := cell_later HF.out.2 hx8; have cyf := cell_later HF.out.2 hy8) | (at_builtin; refine Lib.wpList_append_own_string _ rfl (.tmp 70) (.tmp 74) 33 9 rfl w8.heap.size 5 i5 Efbg.underlying33 Efbg.underlying9 hi hz0 hz1 hz2 _ _ _ rfl HF.out.1 x rfl (by unfold maxLen; (try simp only [List.length_append, List.length_cons, List.length_nil, size_toList]); omega) (by (try simp only [List.length_append, List.length_cons, List.length_nil, size_toList]); omega) HF.out.2.size ?_; intro va wa hown hgrow _; have HA := hid (own_str x HF.out hown hgrow); clear hown hgrow; have cxa := cell_later HA.out.2 hx8; have cya := cell_later HA.out.2 hy8) | (at_builtin; refine wpList_append_own _ rfl (.tmp 76) (.tmp 77) 33 rfl w8.heap.size 5 i5 (.int .u8 0) 1 1 Efbg.underlying33 hi hz0 hz1 hz2 rfl (by decide) _ _ _ rfl (HA.out.1.alloc _) ⟨wa.heap.size, 0, none⟩ 1 1 [.int .u8 58] rfl rfl (cell_one_new _ _ _) (oneU8 _) (by unfold maxLen; (try simp only [List.length_append, List.length_cons, List.length_nil, size_toList]); omega) (by (try simp only [List.length_append, List.length_cons, List.length_nil, size_toList]); omega) (by have := HA.out.2.size; simp; omega) ?_; intro vb wb hown hgrow _; have HBB := hid (own_byte 58 HA.out hown hgrow); clear hown hgrow; have cxb := cell_later HBB.out.2 hx8; have cyb := cell_later HBB.out.2 hy8) | (at_builtin; refine wpList_append_own _ rfl (.tmp 79) (.tmp 80) 33 rfl w8.heap.size 5 i5 (.int .u8 0) 1 1 Efbg.underlying33 hi hz0 hz1 hz2 rfl (by decide) _ _ _ rfl (HBB.out.1.alloc _) ⟨wb.heap.size, 0, none⟩ 1 1 [.int .u8 32] rfl rfl (cell_one_new _ _ _) (oneU8 _) (by unfold maxLen; (try simp only [List.length_append, List.length_cons, List.length_nil, size_toList]); omega) (by (try simp only [List.length_append, List.length_cons, List.length_nil, size_toList]); omega) (by have := HBB.out.2.size; simp; omega) ?_; intro vc wc hown hgrow _; have HC := hid (own_byte 32 HBB.out hown hgrow); clear hown hgrow; have cxc := cell_later HC.out.2 hx8; have cyc := cell_later HC.out.2 hy8) | (at_builtin; refine Lib.wpList_append_own_string _ rfl (.tmp 82) (.tmp 86) 33 9 rfl w8.heap.size 5 i5 Efbg.underlying33 Efbg.underlying9 hi hz0 hz1 hz2 _ _ _ rfl HC.out.1 y rfl (by unfold maxLen; (try simp only [List.length_append, List.length_cons, List.length_nil, size_toList]); omega) (by (try simp only [List.length_append, List.length_cons, List.length_nil, size_toList]); omega) HC.out.2.size ?_; intro vd wd hown hgrow _; have HD := hid (own_str y HC.out hown hgrow); clear hown hgrow; have cxd := cell_later HD.out.2 hx8; have cyd := cell_later HD.out.2 hy8))
          have R := HD.out
          rw [HLL.out, ← preL_next (els ks vs) ⟨x, y, 0, 0⟩ k (by omega) HEL.out] at R
          have HR := hid R
          clear R
          go_roundw
          case rel => exact ⟨k + 1, by omega, by go_num, HR⟩
          case measure => simp [intOf]; omega
      · have hke : k = M := by omega
        subst hke
        have hE : litB 123 125 (pairs (els ks vs)) = ⟨(preL (els ks vs) k ++ [125]).toArray⟩ := preL_full (els ks vs) k (by rw [HL.out]; exact Nat.le_refl _)
        have HFE := hid hE
        clear hE
        go_wp2_with (at_builtin; refine wpList_append_own _ rfl (.tmp 88) (.tmp 89) 33 rfl w8.heap.size 5 i5 (.int .u8 0) 1 1 Efbg.underlying33 hi hz0 hz1 hz2 rfl (by decide) _ _ _ rfl (HP.out.1.alloc _) ⟨wr.heap.size, 0, none⟩ 1 1 [.int .u8 125] rfl rfl (cell_one_new _ _ _) (oneU8 _) (by unfold maxLen; (try simp only [List.length_append, List.length_cons, List.length_nil, size_toList]); omega) (by (try simp only [List.length_append, List.length_cons, List.length_nil, size_toList]); omega) (by have := HP.out.2.size; simp; omega) ?_; intro vz wz hown hgrow _; have HZ := hid (own_byte 125 HP.out hown hgrow); clear hown hgrow; have hcv := own_string HZ.out (by simp); rw [← HFE.out] at hcv)
        go_ret
        exact ⟨rfl, HB7.out.trans (HZ.out.2.mono HB7.out.size)⟩

end Go.Proofs.Yoefbw
