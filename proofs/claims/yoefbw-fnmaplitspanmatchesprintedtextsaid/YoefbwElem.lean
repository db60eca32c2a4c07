import Derived.Test.YoefbwBase
import Derived.Deep.QuietTactic
import Derived.BigQuiet
namespace Go.Proofs.Yoefbw
open Go.RowKit

set_option maxHeartbeats 400000 in
theorem ident_any (b : Nat) (v : ByteArray) (w : World) (hc : w.cell? ⟨b, 0, none⟩ = some (.string v)) :
    Calls Efbg.prog 49 #[.pointer (some ⟨b, 0, none⟩)] w fun e w' => e = .returned (.string v) ∧ w' = w := by
  go_enter Efbg.func49, Efbg.ntmps49
  go_wp2
  go_ret
  exact ⟨rfl, rfl⟩

/-- 'key: value'. -/
def pairB (k v : ByteArray) : ByteArray := k ++ ⟨#[58, 32]⟩ ++ v

set_option maxHeartbeats 400000 in
theorem elem_any (bm bi : Nat) (k v : ByteArray) (w : World) (hk : w.cell? ⟨bm, 0, none⟩ = some (.string k)) (h3 : w.cell? ⟨bm, 3, none⟩ = some (.iface 40 (.pointer (some ⟨bi, 0, none⟩)))) (hv : w.cell? ⟨bi, 0, none⟩ = some (.string v))
    (hl : k.size + v.size ≤ 1048576) :
    Calls Efbg.prog 19 #[.pointer (some ⟨bm, 0, none⟩)] w fun e w' => e = .returned (.string (pairB k v)) ∧ ∃ n, w' = w.drewN n := by
  have e2 : (ByteArray.mk #[58, 32]).size = 2 := rfl
  have ha1 : ∀ W, (Op.stringOp .add k ⟨#[58, 32]⟩).run Efbg.prog W = .ok (.string (k ++ ⟨#[58, 32]⟩)) W := fun W => run_string_add_sum W _ _ (by rw [e2]; omega)
  have ha2 : ∀ W, (Op.stringOp .add (k ++ ⟨#[58, 32]⟩) v).run Efbg.prog W = .ok (.string (pairB k v)) W := fun W => run_string_add_sum W _ _ (by rw [ByteArray.size_append, e2]; omega)
  clear e2
  have hm : ∀ (a : Addr) (W : World), (method 176 40 (.pointer (some a)) "String").run Efbg.prog W = .ok (49, .pointer (some a)) W := fun _ _ => by kernel_rfl
  go_enter Efbg.func19, Efbg.ntmps19
  go_wp2
  go_quiet ((go_at_call 49; exact Calls.quiet_of_same (ident_any bi v _ (by simpa using hv))))
  go_wp2
  go_ret
  exact ⟨rfl, _, rfl⟩

end Go.Proofs.Yoefbw
