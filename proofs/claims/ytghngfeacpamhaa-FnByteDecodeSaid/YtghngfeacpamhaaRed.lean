/-
  laws.reduced: over a slice of numbers it returns true exactly if all are below 3329; nothing is written. The conditions: the slice's cells hold the numbers, and there are at most 100000.
-/
import Derived.Test.YtghngfeacpamhaaField
import Derived.Lib.Hide
namespace Go.Proofs.Ytghngfeacpamhaa
open Go.RowKit

set_option maxHeartbeats 400000 in
theorem reduced_yes (g : Nat → Int) (b off n cap : Nat) (w : World) (hn : n ≤ 100000)
    (hc : ∀ i, i < n → w.cell? ⟨b, off + i, none⟩ = some (.int .u16 (g i))) (hr : ∀ i, i < n → g i < 3329) :
    Calls Try.prog 23 #[.slice (some ⟨b, off, none⟩) n cap] w fun e w' => e = .returned (.bool true) ∧ w = w' := by
  have HC := Lib.hid hc; clear hc
  have HR := Lib.hid hr; clear hr
  go_enter Try.func23, Try.ntmps23
  go_wp2
  go_loop [4, 7] (fun _ i => ∃ k : Nat, k ≤ n ∧ i = .int .i64 k) (fun _ i => n - (intOf i).toNat)
  case atStart => exact ⟨0, Nat.zero_le _, rfl⟩
  case round =>
    obtain ⟨k, hk, rfl⟩ := hrel
    by_cases hlt : k < n
    · have hcell := HC.out k hlt
      have hred := HR.out k hlt
      go_wp2
      go_round
      case rel => exact ⟨k + 1, by omega, by go_num⟩
      case measure => simp [intOf]; omega
    · go_wp2
      go_ret
      exact ⟨rfl, rfl⟩

set_option maxHeartbeats 400000 in
theorem reduced_no (g : Nat → Int) (b off n cap : Nat) (w : World) (hn : n ≤ 100000)
    (hc : ∀ i, i < n → w.cell? ⟨b, off + i, none⟩ = some (.int .u16 (g i))) (j : Nat) (hj : j < n) (hr : 3329 ≤ g j) :
    Calls Try.prog 23 #[.slice (some ⟨b, off, none⟩) n cap] w fun e w' => e = .returned (.bool false) ∧ w = w' := by
  have HC := Lib.hid hc; clear hc
  go_enter Try.func23, Try.ntmps23
  go_wp2
  go_loop [4, 7] (fun _ i => ∃ k : Nat, k ≤ j ∧ i = .int .i64 k) (fun _ i => n - (intOf i).toNat)
  case atStart => exact ⟨0, Nat.zero_le _, rfl⟩
  case round =>
    obtain ⟨k, hk, rfl⟩ := hrel
    have hlt : k < n := by omega
    have hcell := HC.out k hlt
    by_cases hred : g k < 3329
    · have hne : k ≠ j := by rintro rfl; omega
      have hkj : k + 1 ≤ j := by omega
      clear hne
      go_wp2
      go_round
      case rel => exact ⟨k + 1, by omega, by go_num⟩
      case measure => simp [intOf]; omega
    · go_wp2
      go_ret
      exact ⟨rfl, rfl⟩
end Go.Proofs.Ytghngfeacpamhaa
