import Derived.Test.YoefbwBase
namespace Go.Proofs.Yoefbw
open Go.RowKit

/-- What zzBytes answers: some bool; where it is true the sum is at most 2 to the 20. -/
def BytesEnd (N : Nat) (w : World) (e : Ending) (w' : World) : Prop := ∃ r : Bool, e = .returned (.bool r) ∧ (r = true → N ≤ 1048576) ∧ w' = w

set_option maxHeartbeats 2000000 in
theorem bytes6_any (a b : Option Addr) (c d : Nat) (ks vs : List ByteArray) (w : World) (hk : SRow w a ks) (hv : SRow w b vs) :
    Calls Efbg.prog 6 #[.slice a ks.length c, .slice b vs.length d] w fun e w' => BytesEnd (ks.length + vs.length + sz ks + sz vs) w e w' := by
  by_cases g1 : (1048576 : Int) < (ks.length : Int)
  · go_enter Efbg.func6, Efbg.ntmps6
    go_wp2
    go_ret
    exact ⟨false, rfl, fun h => Bool.noConfusion h, rfl⟩
  go_enter Efbg.func6, Efbg.ntmps6
  go_wp2
  go_loop [5, 6] (fun t i => ∃ k : Nat, k ≤ ks.length ∧ i = .int .i64 k ∧ t = .int .i64 ((ks.length + sz (ks.take k) : Nat) : Int) ∧ ks.length + sz (ks.take k) ≤ 1048576) (fun _ i => ks.length - (intOf i).toNat)
  case atStart => exact ⟨0, Nat.zero_le _, rfl, by rw [List.take_zero, sz_nil]; go_num, by rw [List.take_zero, sz_nil]; omega⟩
  case round =>
    obtain ⟨k, hkl, rfl, rfl, hb⟩ := hrel
    by_cases hlt : k < ks.length
    · obtain ⟨b0, off, x, hx, rfl, -, hc⟩ := hk.at hlt
      have H1 := hid (sz_take_succ ks k x hx)
      clear hx
      by_cases hx1 : (1048576 : Int) < (x.size : Int)
      · go_wp2
        go_ret
        exact ⟨false, rfl, fun h => Bool.noConfusion h, rfl⟩
      by_cases hx2 : (1048576 : Int) < (((ks.length + sz (ks.take k) : Nat) : Int) + (x.size : Int))
      · go_wp2
        go_ret
        exact ⟨false, rfl, fun h => Bool.noConfusion h, rfl⟩
      go_wp2
      go_round
      case rel => exact ⟨k + 1, by omega, by go_num, by rw [H1.out]; go_num, by rw [H1.out]; omega⟩
      case measure => simp [intOf]; omega
    · have hke : k = ks.length := by omega
      subst hke
      have hfull : ks.take ks.length = ks := List.take_length
      rw [hfull] at hb ⊢
      clear hfull
      by_cases g2 : (1048576 : Int) < (vs.length : Int)
      · go_wp2
        go_ret
        exact ⟨false, rfl, fun h => Bool.noConfusion h, rfl⟩
      by_cases g3 : (1048576 : Int) < (((ks.length + sz ks : Nat) : Int) + (vs.length : Int))
      · go_wp2
        go_ret
        exact ⟨false, rfl, fun h => Bool.noConfusion h, rfl⟩
      go_wp2
      go_loop [5, 7] (fun t i => ∃ k : Nat, k ≤ vs.length ∧ i = .int .i64 k ∧ t = .int .i64 ((ks.length + sz ks + vs.length + sz (vs.take k) : Nat) : Int) ∧ ks.length + sz ks + vs.length + sz (vs.take k) ≤ 1048576) (fun _ i => vs.length - (intOf i).toNat)
      case atStart => exact ⟨0, Nat.zero_le _, rfl, by rw [List.take_zero, sz_nil]; go_num, by rw [List.take_zero, sz_nil]; omega⟩
      case round =>
        obtain ⟨k, hkl, rfl, rfl, hb⟩ := hrel
        by_cases hlt : k < vs.length
        · obtain ⟨b0, off, x, hx, rfl, -, hc⟩ := hv.at hlt
          have H1 := hid (sz_take_succ vs k x hx)
          clear hx
          by_cases hx1 : (1048576 : Int) < (x.size : Int)
          · go_wp2
            go_ret
            exact ⟨false, rfl, fun h => Bool.noConfusion h, rfl⟩
          by_cases hx2 : (1048576 : Int) < (((ks.length + sz ks + vs.length + sz (vs.take k) : Nat) : Int) + (x.size : Int))
          · go_wp2
            go_ret
            exact ⟨false, rfl, fun h => Bool.noConfusion h, rfl⟩
          go_wp2
          go_round
          case rel => exact ⟨k + 1, by omega, by go_num, by rw [H1.out]; go_num, by rw [H1.out]; omega⟩
          case measure => simp [intOf]; omega
        · have hke : k = vs.length := by omega
          subst hke
          have hfull : vs.take vs.length = vs := List.take_length
          rw [hfull] at hb
          clear hfull
          go_wp2
          go_ret
          exact ⟨true, rfl, fun _ => by omega, rfl⟩

set_option maxHeartbeats 2000000 in
theorem bytes12_any (a b : Option Addr) (c d : Nat) (ks vs : List ByteArray) (w : World) (hk : SRow w a ks) (hv : SRow w b vs) :
    Calls Efbg.prog 12 #[.slice a ks.length c, .slice b vs.length d] w fun e w' => BytesEnd (ks.length + vs.length + sz ks + sz vs) w e w' := by
  by_cases g1 : (1048576 : Int) < (ks.length : Int)
  · go_enter Efbg.func12, Efbg.ntmps12
    go_wp2
    go_ret
    exact ⟨false, rfl, fun h => Bool.noConfusion h, rfl⟩
  go_enter Efbg.func12, Efbg.ntmps12
  go_wp2
  go_loop [5, 6] (fun t i => ∃ k : Nat, k ≤ ks.length ∧ i = .int .i64 k ∧ t = .int .i64 ((ks.length + sz (ks.take k) : Nat) : Int) ∧ ks.length + sz (ks.take k) ≤ 1048576) (fun _ i => ks.length - (intOf i).toNat)
  case atStart => exact ⟨0, Nat.zero_le _, rfl, by rw [List.take_zero, sz_nil]; go_num, by rw [List.take_zero, sz_nil]; omega⟩
  case round =>
    obtain ⟨k, hkl, rfl, rfl, hb⟩ := hrel
    by_cases hlt : k < ks.length
    · obtain ⟨b0, off, x, hx, rfl, -, hc⟩ := hk.at hlt
      have H1 := hid (sz_take_succ ks k x hx)
      clear hx
      by_cases hx1 : (1048576 : Int) < (x.size : Int)
      · go_wp2
        go_ret
        exact ⟨false, rfl, fun h => Bool.noConfusion h, rfl⟩
      by_cases hx2 : (1048576 : Int) < (((ks.length + sz (ks.take k) : Nat) : Int) + (x.size : Int))
      · go_wp2
        go_ret
        exact ⟨false, rfl, fun h => Bool.noConfusion h, rfl⟩
      go_wp2
      go_round
      case rel => exact ⟨k + 1, by omega, by go_num, by rw [H1.out]; go_num, by rw [H1.out]; omega⟩
      case measure => simp [intOf]; omega
    · have hke : k = ks.length := by omega
      subst hke
      have hfull : ks.take ks.length = ks := List.take_length
      rw [hfull] at hb ⊢
      clear hfull
      by_cases g2 : (1048576 : Int) < (vs.length : Int)
      · go_wp2
        go_ret
        exact ⟨false, rfl, fun h => Bool.noConfusion h, rfl⟩
      by_cases g3 : (1048576 : Int) < (((ks.length + sz ks : Nat) : Int) + (vs.length : Int))
      · go_wp2
        go_ret
        exact ⟨false, rfl, fun h => Bool.noConfusion h, rfl⟩
      go_wp2
      go_loop [5, 7] (fun t i => ∃ k : Nat, k ≤ vs.length ∧ i = .int .i64 k ∧ t = .int .i64 ((ks.length + sz ks + vs.length + sz (vs.take k) : Nat) : Int) ∧ ks.length + sz ks + vs.length + sz (vs.take k) ≤ 1048576) (fun _ i => vs.length - (intOf i).toNat)
      case atStart => exact ⟨0, Nat.zero_le _, rfl, by rw [List.take_zero, sz_nil]; go_num, by rw [List.take_zero, sz_nil]; omega⟩
      case round =>
        obtain ⟨k, hkl, rfl, rfl, hb⟩ := hrel
        by_cases hlt : k < vs.length
        · obtain ⟨b0, off, x, hx, rfl, -, hc⟩ := hv.at hlt
          have H1 := hid (sz_take_succ vs k x hx)
          clear hx
          by_cases hx1 : (1048576 : Int) < (x.size : Int)
          · go_wp2
            go_ret
            exact ⟨false, rfl, fun h => Bool.noConfusion h, rfl⟩
          by_cases hx2 : (1048576 : Int) < (((ks.length + sz ks + vs.length + sz (vs.take k) : Nat) : Int) + (x.size : Int))
          · go_wp2
            go_ret
            exact ⟨false, rfl, fun h => Bool.noConfusion h, rfl⟩
          go_wp2
          go_round
          case rel => exact ⟨k + 1, by omega, by go_num, by rw [H1.out]; go_num, by rw [H1.out]; omega⟩
          case measure => simp [intOf]; omega
        · have hke : k = vs.length := by omega
          subst hke
          have hfull : vs.take vs.length = vs := List.take_length
          rw [hfull] at hb
          clear hfull
          go_wp2
          go_ret
          exact ⟨true, rfl, fun _ => by omega, rfl⟩

set_option maxHeartbeats 2000000 in
theorem bytes14_any (a b : Option Addr) (c d : Nat) (ks vs : List ByteArray) (z : Int) (w : World) (hk : SRow w a ks) (hv : SRow w b vs) :
    Calls Efbg.prog 14 #[.slice a ks.length c, .slice b vs.length d, .int .i32 z] w fun e w' => BytesEnd (ks.length + vs.length + sz ks + sz vs) w e w' := by
  by_cases g1 : (1048576 : Int) < (ks.length : Int)
  · go_enter Efbg.func14, Efbg.ntmps14
    go_wp2
    go_ret
    exact ⟨false, rfl, fun h => Bool.noConfusion h, rfl⟩
  go_enter Efbg.func14, Efbg.ntmps14
  go_wp2
  go_loop [7, 8] (fun t i => ∃ k : Nat, k ≤ ks.length ∧ i = .int .i64 k ∧ t = .int .i64 ((ks.length + sz (ks.take k) : Nat) : Int) ∧ ks.length + sz (ks.take k) ≤ 1048576) (fun _ i => ks.length - (intOf i).toNat)
  case atStart => exact ⟨0, Nat.zero_le _, rfl, by rw [List.take_zero, sz_nil]; go_num, by rw [List.take_zero, sz_nil]; omega⟩
  case round =>
    obtain ⟨k, hkl, rfl, rfl, hb⟩ := hrel
    by_cases hlt : k < ks.length
    · obtain ⟨b0, off, x, hx, rfl, -, hc⟩ := hk.at hlt
      have H1 := hid (sz_take_succ ks k x hx)
      clear hx
      by_cases hx1 : (1048576 : Int) < (x.size : Int)
      · go_wp2
        go_ret
        exact ⟨false, rfl, fun h => Bool.noConfusion h, rfl⟩
      by_cases hx2 : (1048576 : Int) < (((ks.length + sz (ks.take k) : Nat) : Int) + (x.size : Int))
      · go_wp2
        go_ret
        exact ⟨false, rfl, fun h => Bool.noConfusion h, rfl⟩
      go_wp2
      go_round
      case rel => exact ⟨k + 1, by omega, by go_num, by rw [H1.out]; go_num, by rw [H1.out]; omega⟩
      case measure => simp [intOf]; omega
    · have hke : k = ks.length := by omega
      subst hke
      have hfull : ks.take ks.length = ks := List.take_length
      rw [hfull] at hb ⊢
      clear hfull
      by_cases g2 : (1048576 : Int) < (vs.length : Int)
      · go_wp2
        go_ret
        exact ⟨false, rfl, fun h => Bool.noConfusion h, rfl⟩
      by_cases g3 : (1048576 : Int) < (((ks.length + sz ks : Nat) : Int) + (vs.length : Int))
      · go_wp2
        go_ret
        exact ⟨false, rfl, fun h => Bool.noConfusion h, rfl⟩
      go_wp2
      go_loop [7, 9] (fun t i => ∃ k : Nat, k ≤ vs.length ∧ i = .int .i64 k ∧ t = .int .i64 ((ks.length + sz ks + vs.length + sz (vs.take k) : Nat) : Int) ∧ ks.length + sz ks + vs.length + sz (vs.take k) ≤ 1048576) (fun _ i => vs.length - (intOf i).toNat)
      case atStart => exact ⟨0, Nat.zero_le _, rfl, by rw [List.take_zero, sz_nil]; go_num, by rw [List.take_zero, sz_nil]; omega⟩
      case round =>
        obtain ⟨k, hkl, rfl, rfl, hb⟩ := hrel
        by_cases hlt : k < vs.length
        · obtain ⟨b0, off, x, hx, rfl, -, hc⟩ := hv.at hlt
          have H1 := hid (sz_take_succ vs k x hx)
          clear hx
          by_cases hx1 : (1048576 : Int) < (x.size : Int)
          · go_wp2
            go_ret
            exact ⟨false, rfl, fun h => Bool.noConfusion h, rfl⟩
          by_cases hx2 : (1048576 : Int) < (((ks.length + sz ks + vs.length + sz (vs.take k) : Nat) : Int) + (x.size : Int))
          · go_wp2
            go_ret
            exact ⟨false, rfl, fun h => Bool.noConfusion h, rfl⟩
          go_wp2
          go_round
          case rel => exact ⟨k + 1, by omega, by go_num, by rw [H1.out]; go_num, by rw [H1.out]; omega⟩
          case measure => simp [intOf]; omega
        · have hke : k = vs.length := by omega
          subst hke
          have hfull : vs.take vs.length = vs := List.take_length
          rw [hfull] at hb
          clear hfull
          go_wp2
          go_ret
          exact ⟨true, rfl, fun _ => by omega, rfl⟩

end Go.Proofs.Yoefbw
