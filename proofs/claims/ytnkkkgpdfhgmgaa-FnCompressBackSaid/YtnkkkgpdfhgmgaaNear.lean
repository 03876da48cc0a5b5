/-
  Plain arithmetic of compression and decompression at the widths 1, 4, 5, 10, 11: a step that is decompressed and compressed is as it was; a number that is compressed and decompressed is near. Conditions: a step below 2 to the d, a number below 3329.
-/
import Derived.Test.YtnkkkgpdfhgmgaaComp
namespace Go.Proofs.Ytnkkkgpdfhgmgaa

theorem back_1 (y : Int) (h0 : 0 ≤ y) (h1 : y < 2) : cmpr 1 (dcmp 1 y) = y ∧ 0 ≤ dcmp 1 y ∧ dcmp 1 y < 3329 := by
  obtain ⟨x, hx⟩ : ∃ x, x = (6658 * y + 2) / 4 := ⟨_, rfl⟩
  have e1 : dcmp 1 y = x := hx.symm
  have e2 : (2 * (x * 2) + 3329) / 6658 = y := by omega
  have e3 : cmpr 1 x = (2 * (x * 2) + 3329) / 6658 % 2 := rfl
  rw [e1, e3, e2]
  exact ⟨by omega, by omega, by omega⟩
theorem near_1 (x : Int) (h0 : 0 ≤ x) (h1 : x < 3329) : 0 ≤ cmpr 1 x ∧ cmpr 1 x < 2 ∧ 0 ≤ dcmp 1 (cmpr 1 x) ∧ dcmp 1 (cmpr 1 x) < 3329 ∧
    min ((x + 3329 - dcmp 1 (cmpr 1 x)) % 3329) (3329 - (x + 3329 - dcmp 1 (cmpr 1 x)) % 3329) ≤ 832 := by
  obtain ⟨t, ht⟩ : ∃ t, t = (2 * (x * 2) + 3329) / 6658 := ⟨_, rfl⟩
  have t0 : 0 ≤ t ∧ t ≤ 2 := by omega
  have e1 : cmpr 1 x = t % 2 := by rw [ht]; rfl
  rcases Int.lt_or_le t 2 with c | c
  · have e2 : t % 2 = t := by omega
    obtain ⟨z, hz⟩ : ∃ z, z = (6658 * t + 2) / 4 := ⟨_, rfl⟩
    have e3 : dcmp 1 t = z := hz.symm
    rw [e1, e2, e3]
    have z0 : 0 ≤ z ∧ z < 3329 := by omega
    have z1 : x - z ≤ 832 ∧ z - x ≤ 832 := by omega
    refine ⟨t0.1, c, z0.1, z0.2, ?_⟩
    clear ht hz e1 e2 e3
    rcases Int.lt_or_le x z with g | g
    · have : (x + 3329 - z) % 3329 = x + 3329 - z := by omega
      rw [this]; omega
    · have : (x + 3329 - z) % 3329 = x - z := by omega
      rw [this]; omega
  · have e2 : t % 2 = 0 := by omega
    have e3 : dcmp 1 0 = 0 := by decide
    rw [e1, e2, e3]
    refine ⟨by omega, by omega, by omega, by omega, ?_⟩
    have : (x + 3329 - 0) % 3329 = x := by omega
    rw [this]; omega

theorem back_4 (y : Int) (h0 : 0 ≤ y) (h1 : y < 16) : cmpr 4 (dcmp 4 y) = y ∧ 0 ≤ dcmp 4 y ∧ dcmp 4 y < 3329 := by
  obtain ⟨x, hx⟩ : ∃ x, x = (6658 * y + 16) / 32 := ⟨_, rfl⟩
  have e1 : dcmp 4 y = x := hx.symm
  have e2 : (2 * (x * 16) + 3329) / 6658 = y := by omega
  have e3 : cmpr 4 x = (2 * (x * 16) + 3329) / 6658 % 16 := rfl
  rw [e1, e3, e2]
  exact ⟨by omega, by omega, by omega⟩
theorem near_4 (x : Int) (h0 : 0 ≤ x) (h1 : x < 3329) : 0 ≤ cmpr 4 x ∧ cmpr 4 x < 16 ∧ 0 ≤ dcmp 4 (cmpr 4 x) ∧ dcmp 4 (cmpr 4 x) < 3329 ∧
    min ((x + 3329 - dcmp 4 (cmpr 4 x)) % 3329) (3329 - (x + 3329 - dcmp 4 (cmpr 4 x)) % 3329) ≤ 104 := by
  obtain ⟨t, ht⟩ : ∃ t, t = (2 * (x * 16) + 3329) / 6658 := ⟨_, rfl⟩
  have t0 : 0 ≤ t ∧ t ≤ 16 := by omega
  have e1 : cmpr 4 x = t % 16 := by rw [ht]; rfl
  rcases Int.lt_or_le t 16 with c | c
  · have e2 : t % 16 = t := by omega
    obtain ⟨z, hz⟩ : ∃ z, z = (6658 * t + 16) / 32 := ⟨_, rfl⟩
    have e3 : dcmp 4 t = z := hz.symm
    rw [e1, e2, e3]
    have z0 : 0 ≤ z ∧ z < 3329 := by omega
    have z1 : x - z ≤ 104 ∧ z - x ≤ 104 := by omega
    refine ⟨t0.1, c, z0.1, z0.2, ?_⟩
    clear ht hz e1 e2 e3
    rcases Int.lt_or_le x z with g | g
    · have : (x + 3329 - z) % 3329 = x + 3329 - z := by omega
      rw [this]; omega
    · have : (x + 3329 - z) % 3329 = x - z := by omega
      rw [this]; omega
  · have e2 : t % 16 = 0 := by omega
    have e3 : dcmp 4 0 = 0 := by decide
    rw [e1, e2, e3]
    refine ⟨by omega, by omega, by omega, by omega, ?_⟩
    have : (x + 3329 - 0) % 3329 = x := by omega
    rw [this]; omega

theorem back_5 (y : Int) (h0 : 0 ≤ y) (h1 : y < 32) : cmpr 5 (dcmp 5 y) = y ∧ 0 ≤ dcmp 5 y ∧ dcmp 5 y < 3329 := by
  obtain ⟨x, hx⟩ : ∃ x, x = (6658 * y + 32) / 64 := ⟨_, rfl⟩
  have e1 : dcmp 5 y = x := hx.symm
  have e2 : (2 * (x * 32) + 3329) / 6658 = y := by omega
  have e3 : cmpr 5 x = (2 * (x * 32) + 3329) / 6658 % 32 := rfl
  rw [e1, e3, e2]
  exact ⟨by omega, by omega, by omega⟩
theorem near_5 (x : Int) (h0 : 0 ≤ x) (h1 : x < 3329) : 0 ≤ cmpr 5 x ∧ cmpr 5 x < 32 ∧ 0 ≤ dcmp 5 (cmpr 5 x) ∧ dcmp 5 (cmpr 5 x) < 3329 ∧
    min ((x + 3329 - dcmp 5 (cmpr 5 x)) % 3329) (3329 - (x + 3329 - dcmp 5 (cmpr 5 x)) % 3329) ≤ 52 := by
  obtain ⟨t, ht⟩ : ∃ t, t = (2 * (x * 32) + 3329) / 6658 := ⟨_, rfl⟩
  have t0 : 0 ≤ t ∧ t ≤ 32 := by omega
  have e1 : cmpr 5 x = t % 32 := by rw [ht]; rfl
  rcases Int.lt_or_le t 32 with c | c
  · have e2 : t % 32 = t := by omega
    obtain ⟨z, hz⟩ : ∃ z, z = (6658 * t + 32) / 64 := ⟨_, rfl⟩
    have e3 : dcmp 5 t = z := hz.symm
    rw [e1, e2, e3]
    have z0 : 0 ≤ z ∧ z < 3329 := by omega
    have z1 : x - z ≤ 52 ∧ z - x ≤ 52 := by omega
    refine ⟨t0.1, c, z0.1, z0.2, ?_⟩
    clear ht hz e1 e2 e3
    rcases Int.lt_or_le x z with g | g
    · have : (x + 3329 - z) % 3329 = x + 3329 - z := by omega
      rw [this]; omega
    · have : (x + 3329 - z) % 3329 = x - z := by omega
      rw [this]; omega
  · have e2 : t % 32 = 0 := by omega
    have e3 : dcmp 5 0 = 0 := by decide
    rw [e1, e2, e3]
    refine ⟨by omega, by omega, by omega, by omega, ?_⟩
    have : (x + 3329 - 0) % 3329 = x := by omega
    rw [this]; omega

theorem back_10 (y : Int) (h0 : 0 ≤ y) (h1 : y < 1024) : cmpr 10 (dcmp 10 y) = y ∧ 0 ≤ dcmp 10 y ∧ dcmp 10 y < 3329 := by
  obtain ⟨x, hx⟩ : ∃ x, x = (6658 * y + 1024) / 2048 := ⟨_, rfl⟩
  have e1 : dcmp 10 y = x := hx.symm
  have e2 : (2 * (x * 1024) + 3329) / 6658 = y := by omega
  have e3 : cmpr 10 x = (2 * (x * 1024) + 3329) / 6658 % 1024 := rfl
  rw [e1, e3, e2]
  exact ⟨by omega, by omega, by omega⟩
theorem near_10 (x : Int) (h0 : 0 ≤ x) (h1 : x < 3329) : 0 ≤ cmpr 10 x ∧ cmpr 10 x < 1024 ∧ 0 ≤ dcmp 10 (cmpr 10 x) ∧ dcmp 10 (cmpr 10 x) < 3329 ∧
    min ((x + 3329 - dcmp 10 (cmpr 10 x)) % 3329) (3329 - (x + 3329 - dcmp 10 (cmpr 10 x)) % 3329) ≤ 2 := by
  obtain ⟨t, ht⟩ : ∃ t, t = (2 * (x * 1024) + 3329) / 6658 := ⟨_, rfl⟩
  have t0 : 0 ≤ t ∧ t ≤ 1024 := by omega
  have e1 : cmpr 10 x = t % 1024 := by rw [ht]; rfl
  rcases Int.lt_or_le t 1024 with c | c
  · have e2 : t % 1024 = t := by omega
    obtain ⟨z, hz⟩ : ∃ z, z = (6658 * t + 1024) / 2048 := ⟨_, rfl⟩
    have e3 : dcmp 10 t = z := hz.symm
    rw [e1, e2, e3]
    have z0 : 0 ≤ z ∧ z < 3329 := by omega
    have z1 : x - z ≤ 2 ∧ z - x ≤ 2 := by omega
    refine ⟨t0.1, c, z0.1, z0.2, ?_⟩
    clear ht hz e1 e2 e3
    rcases Int.lt_or_le x z with g | g
    · have : (x + 3329 - z) % 3329 = x + 3329 - z := by omega
      rw [this]; omega
    · have : (x + 3329 - z) % 3329 = x - z := by omega
      rw [this]; omega
  · have e2 : t % 1024 = 0 := by omega
    have e3 : dcmp 10 0 = 0 := by decide
    rw [e1, e2, e3]
    refine ⟨by omega, by omega, by omega, by omega, ?_⟩
    have : (x + 3329 - 0) % 3329 = x := by omega
    rw [this]; omega

theorem back_11 (y : Int) (h0 : 0 ≤ y) (h1 : y < 2048) : cmpr 11 (dcmp 11 y) = y ∧ 0 ≤ dcmp 11 y ∧ dcmp 11 y < 3329 := by
  obtain ⟨x, hx⟩ : ∃ x, x = (6658 * y + 2048) / 4096 := ⟨_, rfl⟩
  have e1 : dcmp 11 y = x := hx.symm
  have e2 : (2 * (x * 2048) + 3329) / 6658 = y := by omega
  have e3 : cmpr 11 x = (2 * (x * 2048) + 3329) / 6658 % 2048 := rfl
  rw [e1, e3, e2]
  exact ⟨by omega, by omega, by omega⟩
theorem near_11 (x : Int) (h0 : 0 ≤ x) (h1 : x < 3329) : 0 ≤ cmpr 11 x ∧ cmpr 11 x < 2048 ∧ 0 ≤ dcmp 11 (cmpr 11 x) ∧ dcmp 11 (cmpr 11 x) < 3329 ∧
    min ((x + 3329 - dcmp 11 (cmpr 11 x)) % 3329) (3329 - (x + 3329 - dcmp 11 (cmpr 11 x)) % 3329) ≤ 1 := by
  obtain ⟨t, ht⟩ : ∃ t, t = (2 * (x * 2048) + 3329) / 6658 := ⟨_, rfl⟩
  have t0 : 0 ≤ t ∧ t ≤ 2048 := by omega
  have e1 : cmpr 11 x = t % 2048 := by rw [ht]; rfl
  rcases Int.lt_or_le t 2048 with c | c
  · have e2 : t % 2048 = t := by omega
    obtain ⟨z, hz⟩ : ∃ z, z = (6658 * t + 2048) / 4096 := ⟨_, rfl⟩
    have e3 : dcmp 11 t = z := hz.symm
    rw [e1, e2, e3]
    have z0 : 0 ≤ z ∧ z < 3329 := by omega
    have z1 : x - z ≤ 1 ∧ z - x ≤ 1 := by omega
    refine ⟨t0.1, c, z0.1, z0.2, ?_⟩
    clear ht hz e1 e2 e3
    rcases Int.lt_or_le x z with g | g
    · have : (x + 3329 - z) % 3329 = x + 3329 - z := by omega
      rw [this]; omega
    · have : (x + 3329 - z) % 3329 = x - z := by omega
      rw [this]; omega
  · have e2 : t % 2048 = 0 := by omega
    have e3 : dcmp 11 0 = 0 := by decide
    rw [e1, e2, e3]
    refine ⟨by omega, by omega, by omega, by omega, ?_⟩
    have : (x + 3329 - 0) % 3329 = x := by omega
    rw [this]; omega

end Go.Proofs.Ytnkkkgpdfhgmgaa
