import Derived.Test.Qxb6603065aChecked
import Derived.Test.Qxb6603065aPlain
import Derived.WalkKit
import Derived.ProofKit
namespace Go.Proofs.Qxb6603065a
open Go.RowKit

set_option maxHeartbeats 400000 in
theorem ws_any (c : Int) (w : World) : Calls Try.prog 12 #[.int .u8 c] w fun e w' => e = .returned (.bool (Pl.wsB c)) ∧ w' = w := by
  go_enter Try.func12, Try.ntmps12
  go_wp2
  all_goals (go_ret; exact ⟨by simp [Pl.wsB, *], rfl⟩)

set_option maxHeartbeats 400000 in
theorem dig_any (c : Int) (w : World) : Calls Try.prog 37 #[.int .u8 c] w fun e w' => e = .returned (.bool (Pl.digB c)) ∧ w' = w := by
  go_enter Try.func37, Try.ntmps37
  go_wp2
  all_goals (go_ret; exact ⟨by simp [Pl.digB, *]; try omega, rfl⟩)

set_option maxHeartbeats 400000 in
theorem del_any (c : Int) (w : World) : Calls Try.prog 35 #[.int .u8 c] w fun e w' => e = .returned (.bool (Pl.delB c)) ∧ w' = w := by
  go_enter Try.func35, Try.ntmps35
  go_wp2
  all_goals (go_ret; exact ⟨by simp [Pl.delB, *], rfl⟩)

set_option maxHeartbeats 400000 in
theorem ends_any (c : Int) (w : World) : Calls Try.prog 28 #[.int .u8 c] w fun e w' => e = .returned (.bool (Pl.delB c)) ∧ w' = w := by
  go_enter Try.func28, Try.ntmps28
  go_wp2_with (go_at_call 12; refine (ws_any _ _).mono ?_; rintro e w' ⟨rfl, rfl⟩)
  all_goals (go_ret; exact ⟨by simp [Pl.delB, Pl.wsB, Bool.or_assoc, *], rfl⟩)
end Go.Proofs.Qxb6603065a
