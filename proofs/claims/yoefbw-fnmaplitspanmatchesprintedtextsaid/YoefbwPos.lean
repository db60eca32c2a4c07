/-
  Seat oefb. Pos and End of the nodes.
-/
import Derived.Test.YoefbwAgreeP
namespace Go.Proofs.Yoefbw
open Go.RowKit

/-- A callee that at most draws, met in a world that has drawn. -/
theorem quiet_drewN {P : Program} {f : FuncId} {args : Array Value} {w : World} {A x : Nat} {v : Value}
    (h : Calls P f args (w.drewN (A + x)) fun e w' => e = .returned v ∧ Still (w.drewN (A + x)) w') : Calls P f args (w.drewN (A + x)) fun e w'' => e = .returned v ∧ ∃ n, w'' = w.drewN (A + n) :=
  h.mono fun _ _ ⟨he, m, hm⟩ => ⟨he, x + m, by rw [hm, World.drewN_drewN, Nat.add_assoc]⟩

set_option maxHeartbeats 400000 in
theorem mpos_any (bl : Nat) (p : Int) (w : World) (hc : w.cell? ⟨bl, 0, none⟩ = some (.int .i64 p)) :
    Calls Efbg.prog 15 #[.pointer (some ⟨bl, 0, none⟩)] w fun e w' => e = .returned (.int .i64 p) ∧ w = w' := by
  go_enter Efbg.func15, Efbg.ntmps15
  go_wp2
  go_ret
  exact ⟨rfl, rfl⟩

set_option maxHeartbeats 400000 in
theorem mend_any (bl : Nat) (p : Int) (w : World) (hc : w.cell? ⟨bl, 2, none⟩ = some (.int .i64 p)) (h1 : -4611686018427387904 ≤ p) (h2 : p ≤ 4611686018427387904) :
    Calls Efbg.prog 16 #[.pointer (some ⟨bl, 0, none⟩)] w fun e w' => e = .returned (.int .i64 (p + 1)) ∧ w = w' := by
  go_enter Efbg.func16, Efbg.ntmps16
  go_wp2
  go_ret
  exact ⟨rfl, rfl⟩

set_option maxHeartbeats 400000 in
theorem epos_any (bm : Nat) (p : Int) (w : World) (hc : w.cell? ⟨bm, 1, none⟩ = some (.int .i64 p)) :
    Calls Efbg.prog 17 #[.pointer (some ⟨bm, 0, none⟩)] w fun e w' => e = .returned (.int .i64 p) ∧ w = w' := by
  go_enter Efbg.func17, Efbg.ntmps17
  go_wp2
  go_ret
  exact ⟨rfl, rfl⟩

set_option maxHeartbeats 400000 in
theorem idend_any (bi : Nat) (v : ByteArray) (p : Int) (w : World) (hc : w.cell? ⟨bi, 0, none⟩ = some (.string v)) (hp : w.cell? ⟨bi, 1, none⟩ = some (.int .i64 p)) (h1 : -4611686018427387904 ≤ p) (h2 : p ≤ 4611686018427387904) (h3 : v.size ≤ 1048576) :
    Calls Efbg.prog 48 #[.pointer (some ⟨bi, 0, none⟩)] w fun e w' => e = .returned (.int .i64 (p + v.size)) ∧ Still w w' := by
  go_enter Efbg.func48, Efbg.ntmps48
  go_wp2
  go_quiet (fail)
  go_wp2
  go_ret
  exact ⟨rfl, _, rfl⟩

set_option maxHeartbeats 400000 in
theorem eend_any (bm bi : Nat) (v : ByteArray) (p q : Int) (w : World) (h3 : w.cell? ⟨bm, 3, none⟩ = some (.iface 40 (.pointer (some ⟨bi, 0, none⟩)))) (hc : w.cell? ⟨bi, 0, none⟩ = some (.string v)) (hp : w.cell? ⟨bi, 1, none⟩ = some (.int .i64 p))
    (h1 : -4611686018427387904 ≤ p) (h2 : p ≤ 4611686018427387904) (hv : v.size ≤ 1048576) (hq : p + v.size = q) :
    Calls Efbg.prog 18 #[.pointer (some ⟨bm, 0, none⟩)] w fun e w' => e = .returned (.int .i64 q) ∧ Still w w' := by
  have hm : ∀ (a : Addr) (W : World), (method 176 40 (.pointer (some a)) "End").run Efbg.prog W = .ok (48, .pointer (some a)) W := fun _ _ => by kernel_rfl
  subst hq
  go_enter Efbg.func18, Efbg.ntmps18
  go_wp2_with fail
  refine (idend_any bi v p _ hc hp h1 h2 hv).mono ?_
  rintro e w2 ⟨rfl, hst⟩
  have HS := hid hst
  clear hst
  go_wp2
  go_ret
  exact ⟨rfl, HS.out⟩

end Go.Proofs.Yoefbw
