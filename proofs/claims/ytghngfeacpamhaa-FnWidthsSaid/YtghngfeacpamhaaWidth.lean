/-
  laws.width: the five widths of ML-KEM by the rest modulo 5. No further condition.
-/
import Derived.Test.YtghngfeacpamhaaField
namespace Go.Proofs.Ytghngfeacpamhaa
open Go.RowKit

theorem width_case (d : Int) (w : World) (k : Int) (v : Int) (h0 : 0 ≤ d) (hk : d % 5 = k) (hv : (k = 0 ∧ v = 1) ∨ (k = 1 ∧ v = 4) ∨ (k = 2 ∧ v = 5) ∨ (k = 3 ∧ v = 10) ∨ (k = 4 ∧ v = 11)) :
    Calls Try.prog 24 #[.int .u8 d] w fun e w' => e = .returned (.int .u8 v) ∧ w = w' := by
  rcases hv with ⟨rfl, rfl⟩ | ⟨rfl, rfl⟩ | ⟨rfl, rfl⟩ | ⟨rfl, rfl⟩ | ⟨rfl, rfl⟩
  · have hi : ∀ w, (Instr.index 59 (.agg #[.int .u8 1, .int .u8 4, .int .u8 5, .int .u8 10, .int .u8 11]) (.int .u8 0)).run Try.prog w = .ok (.int .u8 1) w := fun _ => by kernel_rfl
    go_enter Try.func24, Try.ntmps24
    go_wp2
    go_ret
    exact ⟨rfl, rfl⟩
  · have hi : ∀ w, (Instr.index 59 (.agg #[.int .u8 1, .int .u8 4, .int .u8 5, .int .u8 10, .int .u8 11]) (.int .u8 1)).run Try.prog w = .ok (.int .u8 4) w := fun _ => by kernel_rfl
    go_enter Try.func24, Try.ntmps24
    go_wp2
    go_ret
    exact ⟨rfl, rfl⟩
  · have hi : ∀ w, (Instr.index 59 (.agg #[.int .u8 1, .int .u8 4, .int .u8 5, .int .u8 10, .int .u8 11]) (.int .u8 2)).run Try.prog w = .ok (.int .u8 5) w := fun _ => by kernel_rfl
    go_enter Try.func24, Try.ntmps24
    go_wp2
    go_ret
    exact ⟨rfl, rfl⟩
  · have hi : ∀ w, (Instr.index 59 (.agg #[.int .u8 1, .int .u8 4, .int .u8 5, .int .u8 10, .int .u8 11]) (.int .u8 3)).run Try.prog w = .ok (.int .u8 10) w := fun _ => by kernel_rfl
    go_enter Try.func24, Try.ntmps24
    go_wp2
    go_ret
    exact ⟨rfl, rfl⟩
  · have hi : ∀ w, (Instr.index 59 (.agg #[.int .u8 1, .int .u8 4, .int .u8 5, .int .u8 10, .int .u8 11]) (.int .u8 4)).run Try.prog w = .ok (.int .u8 11) w := fun _ => by kernel_rfl
    go_enter Try.func24, Try.ntmps24
    go_wp2
    go_ret
    exact ⟨rfl, rfl⟩
end Go.Proofs.Ytghngfeacpamhaa
