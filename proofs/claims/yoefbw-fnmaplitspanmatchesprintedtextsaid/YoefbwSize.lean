import Derived.Test.YoefbwBase
namespace Go.Proofs.Yoefbw
open Go.RowKit

set_option maxHeartbeats 400000 in
theorem pairs_any (a b : Option Addr) (n m c d : Nat) (w : World) :
    Calls Efbg.prog 10 #[.slice a n c, .slice b m d] w fun e w' => e = .returned (.int .i64 (min n m : Nat)) ∧ w' = w := by
  by_cases h : (m : Int) < (n : Int)
  · have e1 : min n m = m := by omega
    rw [e1]
    go_enter Efbg.func10, Efbg.ntmps10
    go_wp2
    go_ret
    exact ⟨rfl, rfl⟩
  · have e1 : min n m = n := by omega
    rw [e1]
    go_enter Efbg.func10, Efbg.ntmps10
    go_wp2
    go_ret
    exact ⟨rfl, rfl⟩

set_option maxHeartbeats 1000000 in
theorem size_any (a b : Option Addr) (c d : Nat) (ks vs : List ByteArray) (w : World) (hk : SRow w a ks) (hv : SRow w b vs)
    (hlen : ks.length + vs.length + sz ks + sz vs ≤ 1048576) :
    Calls Efbg.prog 7 #[.slice a ks.length c, .slice b vs.length d] w fun e w' => e = .returned (.int .i64 ((16 * ks.length + 16 * vs.length + sz ks + sz vs : Nat) : Int)) ∧ w' = w := by
  go_enter Efbg.func7, Efbg.ntmps7
  go_wp2
  go_loop [5, 6] (fun t i => ∃ k : Nat, k ≤ ks.length ∧ i = .int .i64 k ∧ t = .int .i64 ((16 * ks.length + 16 * vs.length + sz (ks.take k) : Nat) : Int)) (fun _ i => ks.length - (intOf i).toNat)
  case atStart => exact ⟨0, Nat.zero_le _, rfl, by simp [sz]⟩
  case round =>
    obtain ⟨k, hkl, rfl, rfl⟩ := hrel
    by_cases hlt : k < ks.length
    · obtain ⟨b0, off, x, hx, rfl, -, hc⟩ := hk.at hlt
      have h1 := sz_take_succ ks k x hx
      have h2 := sz_take_le ks (k + 1)
      have H1 := hid h1
      have h3 : sz (ks.take k) + x.size ≤ 1048576 := by omega
      clear h1 h2 hx
      go_wp2
      go_round
      case rel => exact ⟨k + 1, by omega, by go_num, by rw [H1.out]; go_num⟩
      case measure => simp [intOf]; omega
    · have hke : k = ks.length := by omega
      subst hke
      go_wp2
      go_loop [5, 7] (fun t i => ∃ k : Nat, k ≤ vs.length ∧ i = .int .i64 k ∧ t = .int .i64 ((16 * ks.length + 16 * vs.length + sz ks + sz (vs.take k) : Nat) : Int)) (fun _ i => vs.length - (intOf i).toNat)
      case atStart => exact ⟨0, Nat.zero_le _, rfl, by simp [sz]⟩
      case round =>
        obtain ⟨k, hkl, rfl, rfl⟩ := hrel
        by_cases hlt : k < vs.length
        · obtain ⟨b0, off, x, hx, rfl, -, hc⟩ := hv.at hlt
          have h1 := sz_take_succ vs k x hx
          have h2 := sz_take_le vs (k + 1)
          have H1 := hid h1
          have h3 : sz (vs.take k) + x.size ≤ sz vs := by omega
          clear h1 h2 hx
          go_wp2
          go_round
          case rel => exact ⟨k + 1, by omega, by go_num, by rw [H1.out]; go_num⟩
          case measure => simp [intOf]; omega
        · have hke : k = vs.length := by omega
          subst hke
          go_wp2
          go_ret
          exact ⟨by simp, rfl⟩

end Go.Proofs.Yoefbw
