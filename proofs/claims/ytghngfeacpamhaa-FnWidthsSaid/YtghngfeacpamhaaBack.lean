/-
  Plain arithmetic at every width from 1 to 11: a step that is decompressed and compressed is as it was, and what it decompresses to is below 3329; a compressed number is below 2 to the d. Conditions: a step below 2 to the d.
-/
import Derived.Test.YtghngfeacpamhaaCmp
namespace Go.Proofs.Ytghngfeacpamhaa

theorem bk_1 (y : Int) (h0 : 0 ≤ y) (h1 : y < 2) : cmpr 1 (dcmp 1 y) = y ∧ 0 ≤ dcmp 1 y ∧ dcmp 1 y < 3329 := by
  obtain ⟨x, hx⟩ : ∃ x, x = (6658 * y + 2) / 4 := ⟨_, rfl⟩
  have e1 : dcmp 1 y = x := hx.symm
  have e2 : (2 * (x * 2) + 3329) / 6658 = y := by omega
  have e3 : cmpr 1 x = (2 * (x * 2) + 3329) / 6658 % 2 := rfl
  rw [e1, e3, e2]
  exact ⟨by omega, by omega, by omega⟩
theorem bk_2 (y : Int) (h0 : 0 ≤ y) (h1 : y < 4) : cmpr 2 (dcmp 2 y) = y ∧ 0 ≤ dcmp 2 y ∧ dcmp 2 y < 3329 := by
  obtain ⟨x, hx⟩ : ∃ x, x = (6658 * y + 4) / 8 := ⟨_, rfl⟩
  have e1 : dcmp 2 y = x := hx.symm
  have e2 : (2 * (x * 4) + 3329) / 6658 = y := by omega
  have e3 : cmpr 2 x = (2 * (x * 4) + 3329) / 6658 % 4 := rfl
  rw [e1, e3, e2]
  exact ⟨by omega, by omega, by omega⟩
theorem bk_3 (y : Int) (h0 : 0 ≤ y) (h1 : y < 8) : cmpr 3 (dcmp 3 y) = y ∧ 0 ≤ dcmp 3 y ∧ dcmp 3 y < 3329 := by
  obtain ⟨x, hx⟩ : ∃ x, x = (6658 * y + 8) / 16 := ⟨_, rfl⟩
  have e1 : dcmp 3 y = x := hx.symm
  have e2 : (2 * (x * 8) + 3329) / 6658 = y := by omega
  have e3 : cmpr 3 x = (2 * (x * 8) + 3329) / 6658 % 8 := rfl
  rw [e1, e3, e2]
  exact ⟨by omega, by omega, by omega⟩
theorem bk_4 (y : Int) (h0 : 0 ≤ y) (h1 : y < 16) : cmpr 4 (dcmp 4 y) = y ∧ 0 ≤ dcmp 4 y ∧ dcmp 4 y < 3329 := by
  obtain ⟨x, hx⟩ : ∃ x, x = (6658 * y + 16) / 32 := ⟨_, rfl⟩
  have e1 : dcmp 4 y = x := hx.symm
  have e2 : (2 * (x * 16) + 3329) / 6658 = y := by omega
  have e3 : cmpr 4 x = (2 * (x * 16) + 3329) / 6658 % 16 := rfl
  rw [e1, e3, e2]
  exact ⟨by omega, by omega, by omega⟩
theorem bk_5 (y : Int) (h0 : 0 ≤ y) (h1 : y < 32) : cmpr 5 (dcmp 5 y) = y ∧ 0 ≤ dcmp 5 y ∧ dcmp 5 y < 3329 := by
  obtain ⟨x, hx⟩ : ∃ x, x = (6658 * y + 32) / 64 := ⟨_, rfl⟩
  have e1 : dcmp 5 y = x := hx.symm
  have e2 : (2 * (x * 32) + 3329) / 6658 = y := by omega
  have e3 : cmpr 5 x = (2 * (x * 32) + 3329) / 6658 % 32 := rfl
  rw [e1, e3, e2]
  exact ⟨by omega, by omega, by omega⟩
theorem bk_6 (y : Int) (h0 : 0 ≤ y) (h1 : y < 64) : cmpr 6 (dcmp 6 y) = y ∧ 0 ≤ dcmp 6 y ∧ dcmp 6 y < 3329 := by
  obtain ⟨x, hx⟩ : ∃ x, x = (6658 * y + 64) / 128 := ⟨_, rfl⟩
  have e1 : dcmp 6 y = x := hx.symm
  have e2 : (2 * (x * 64) + 3329) / 6658 = y := by omega
  have e3 : cmpr 6 x = (2 * (x * 64) + 3329) / 6658 % 64 := rfl
  rw [e1, e3, e2]
  exact ⟨by omega, by omega, by omega⟩
theorem bk_7 (y : Int) (h0 : 0 ≤ y) (h1 : y < 128) : cmpr 7 (dcmp 7 y) = y ∧ 0 ≤ dcmp 7 y ∧ dcmp 7 y < 3329 := by
  obtain ⟨x, hx⟩ : ∃ x, x = (6658 * y + 128) / 256 := ⟨_, rfl⟩
  have e1 : dcmp 7 y = x := hx.symm
  have e2 : (2 * (x * 128) + 3329) / 6658 = y := by omega
  have e3 : cmpr 7 x = (2 * (x * 128) + 3329) / 6658 % 128 := rfl
  rw [e1, e3, e2]
  exact ⟨by omega, by omega, by omega⟩
theorem bk_8 (y : Int) (h0 : 0 ≤ y) (h1 : y < 256) : cmpr 8 (dcmp 8 y) = y ∧ 0 ≤ dcmp 8 y ∧ dcmp 8 y < 3329 := by
  obtain ⟨x, hx⟩ : ∃ x, x = (6658 * y + 256) / 512 := ⟨_, rfl⟩
  have e1 : dcmp 8 y = x := hx.symm
  have e2 : (2 * (x * 256) + 3329) / 6658 = y := by omega
  have e3 : cmpr 8 x = (2 * (x * 256) + 3329) / 6658 % 256 := rfl
  rw [e1, e3, e2]
  exact ⟨by omega, by omega, by omega⟩
theorem bk_9 (y : Int) (h0 : 0 ≤ y) (h1 : y < 512) : cmpr 9 (dcmp 9 y) = y ∧ 0 ≤ dcmp 9 y ∧ dcmp 9 y < 3329 := by
  obtain ⟨x, hx⟩ : ∃ x, x = (6658 * y + 512) / 1024 := ⟨_, rfl⟩
  have e1 : dcmp 9 y = x := hx.symm
  have e2 : (2 * (x * 512) + 3329) / 6658 = y := by omega
  have e3 : cmpr 9 x = (2 * (x * 512) + 3329) / 6658 % 512 := rfl
  rw [e1, e3, e2]
  exact ⟨by omega, by omega, by omega⟩
theorem bk_10 (y : Int) (h0 : 0 ≤ y) (h1 : y < 1024) : cmpr 10 (dcmp 10 y) = y ∧ 0 ≤ dcmp 10 y ∧ dcmp 10 y < 3329 := by
  obtain ⟨x, hx⟩ : ∃ x, x = (6658 * y + 1024) / 2048 := ⟨_, rfl⟩
  have e1 : dcmp 10 y = x := hx.symm
  have e2 : (2 * (x * 1024) + 3329) / 6658 = y := by omega
  have e3 : cmpr 10 x = (2 * (x * 1024) + 3329) / 6658 % 1024 := rfl
  rw [e1, e3, e2]
  exact ⟨by omega, by omega, by omega⟩
theorem bk_11 (y : Int) (h0 : 0 ≤ y) (h1 : y < 2048) : cmpr 11 (dcmp 11 y) = y ∧ 0 ≤ dcmp 11 y ∧ dcmp 11 y < 3329 := by
  obtain ⟨x, hx⟩ : ∃ x, x = (6658 * y + 2048) / 4096 := ⟨_, rfl⟩
  have e1 : dcmp 11 y = x := hx.symm
  have e2 : (2 * (x * 2048) + 3329) / 6658 = y := by omega
  have e3 : cmpr 11 x = (2 * (x * 2048) + 3329) / 6658 % 2048 := rfl
  rw [e1, e3, e2]
  exact ⟨by omega, by omega, by omega⟩
theorem back_any (d : Nat) (y : Int) (d0 : 1 ≤ d) (d1 : d ≤ 11) (h0 : 0 ≤ y) (h1 : y < 2 ^ d) : cmpr d (dcmp d y) = y ∧ 0 ≤ dcmp d y ∧ dcmp d y < 3329 := by
  obtain rfl | rfl | rfl | rfl | rfl | rfl | rfl | rfl | rfl | rfl | rfl : d = 1 ∨ d = 2 ∨ d = 3 ∨ d = 4 ∨ d = 5 ∨ d = 6 ∨ d = 7 ∨ d = 8 ∨ d = 9 ∨ d = 10 ∨ d = 11 := by omega
  · exact bk_1 y h0 h1
  · exact bk_2 y h0 h1
  · exact bk_3 y h0 h1
  · exact bk_4 y h0 h1
  · exact bk_5 y h0 h1
  · exact bk_6 y h0 h1
  · exact bk_7 y h0 h1
  · exact bk_8 y h0 h1
  · exact bk_9 y h0 h1
  · exact bk_10 y h0 h1
  · exact bk_11 y h0 h1
theorem cmpr_bd (d : Nat) (x : Int) : 0 ≤ cmpr d x ∧ cmpr d x < 2 ^ d := ⟨Int.emod_nonneg _ (Int.ne_of_gt (two_pos d)), Int.emod_lt_of_pos _ (two_pos d)⟩
end Go.Proofs.Ytghngfeacpamhaa
