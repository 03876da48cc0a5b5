/-
  Slices of bytes: reading, making, comparing. No condition.
-/
import Derived.Test.YtghngfeacpamhaaTyp
import Derived.Test.YtghngfeacpamhaaBit
import Derived.Deep.OwnRows
import Derived.Laws.BytesString
import Derived.Laws.BitsAllLaws
namespace Go.Proofs.Ytghngfeacpamhaa
open Go.RowKit

/-- A slice of n bytes. -/
structure Bys (w : World) (v : Value) (n : Nat) (g : Nat → Int) : Prop where
  out : ∃ b off cap, v = .slice (some ⟨b, off, none⟩) n cap ∧ n ≤ cap ∧ ∀ i, i < n → w.cell? ⟨b, off + i, none⟩ = some (.int .u8 (g i))
theorem Bys.below {w w' : World} {v : Value} {n : Nat} {g : Nat → Int} (h : Bys w v n g) (hb : RowKit.Below w.heap.size w w') : Bys w' v n g := by
  obtain ⟨b, off, cap, rfl, hcap, hc⟩ := h.out
  exact ⟨b, off, cap, rfl, hcap, fun i hi => by rw [hb.cell (p := ⟨b, off + i, none⟩) (block_lt_of_cell (hc i hi))]; exact hc i hi⟩
theorem info5 : (Try.prog.info? 5).map (fun i => (i.zero, i.size, i.bytes)) = some (some (.int .u8 0), 1, 1) := by kernel_rfl
theorem made_arr (n : Nat) : madeCells #[.int .u8 0] n = arr .u8 n fun _ => 0 := by
  apply Array.ext
  · rw [size_madeCells, arr_size]
  · intro i h1 h2
    rw [arr_size] at h2
    have h := arr_get .u8 n (fun _ => 0) i h2
    rw [Array.getElem?_eq_getElem (by rw [arr_size]; exact h2)] at h
    rw [Option.some.inj h]
    simp [madeCells, Nat.mod_one]
theorem nat_or (a b c : Nat) (h : a < 2 ^ c) : a ||| b * 2 ^ c = a + b * 2 ^ c := by
  rw [Nat.or_comm, Nat.mul_comm b, ← Nat.two_pow_add_eq_or_of_lt h, Nat.add_comm]
theorem cast_pow (c : Nat) : ((2 ^ c : Nat) : Int) = 2 ^ c := by simp
theorem and1_i64 (x : Int) (h0 : 0 ≤ x) (h1 : x < 9223372036854775808) : bits .and .i64 x 1 = x % 2 := by
  obtain ⟨n, rfl⟩ : ∃ n : Nat, (n : Int) = x := ⟨x.toNat, by omega⟩
  have e : (BitVec.ofInt 64 (n : Int) &&& BitVec.ofInt 64 1).toNat = n % 2 := by
    rw [BitVec.toNat_and, ofInt_u64 n (by omega), show (BitVec.ofInt 64 1).toNat = 1 from rfl, nat_mask1]
  show IntKind.i64.wrap ((BitVec.ofInt 64 (n : Int) &&& BitVec.ofInt 64 1).toNat : Int) = _
  rw [e, IntWalk.i64_in _ (by omega)]
  omega
theorem or_u8 (a b : Int) (c : Nat) (a0 : 0 ≤ a) (a1 : a < 2 ^ c) (b0 : 0 ≤ b) (h : a + b * 2 ^ c < 256) : bits .or .u8 a (b * 2 ^ c) = a + b * 2 ^ c := by
  obtain ⟨m, rfl⟩ : ∃ m : Nat, (m : Int) = a := ⟨a.toNat, by omega⟩
  obtain ⟨n, rfl⟩ : ∃ n : Nat, (n : Int) = b := ⟨b.toNat, by omega⟩
  rw [← cast_pow, ← Int.natCast_mul] at *
  have h' : m + n * 2 ^ c < 256 := by omega
  rw [u8_or_nat m (n * 2 ^ c) (by omega) (by omega), nat_or m n c (by omega)]; rfl
theorem or_u16 (a b : Int) (c : Nat) (a0 : 0 ≤ a) (a1 : a < 2 ^ c) (b0 : 0 ≤ b) (h : a + b * 2 ^ c < 65536) : bits .or .u16 a (b * 2 ^ c) = a + b * 2 ^ c := by
  obtain ⟨m, rfl⟩ : ∃ m : Nat, (m : Int) = a := ⟨a.toNat, by omega⟩
  obtain ⟨n, rfl⟩ : ∃ n : Nat, (n : Int) = b := ⟨b.toNat, by omega⟩
  rw [← cast_pow, ← Int.natCast_mul] at *
  have h' : m + n * 2 ^ c < 65536 := by omega
  rw [u16_or_nat m (n * 2 ^ c) (by omega) (by omega), nat_or m n c (by omega)]; rfl
theorem or_u32 (a b : Int) (c : Nat) (a0 : 0 ≤ a) (a1 : a < 2 ^ c) (b0 : 0 ≤ b) (h : a + b * 2 ^ c < 4294967296) : bits .or .u32 a (b * 2 ^ c) = a + b * 2 ^ c := by
  obtain ⟨m, rfl⟩ : ∃ m : Nat, (m : Int) = a := ⟨a.toNat, by omega⟩
  obtain ⟨n, rfl⟩ : ∃ n : Nat, (n : Int) = b := ⟨b.toNat, by omega⟩
  rw [← cast_pow, ← Int.natCast_mul] at *
  have h' : m + n * 2 ^ c < 4294967296 := by omega
  rw [u32_or_nat m (n * 2 ^ c) (by omega) (by omega), nat_or m n c (by omega)]; rfl
theorem or_u64 (a b : Int) (c : Nat) (a0 : 0 ≤ a) (a1 : a < 2 ^ c) (b0 : 0 ≤ b) (h : a + b * 2 ^ c < 18446744073709551616) : bits .or .u64 a (b * 2 ^ c) = a + b * 2 ^ c := by
  obtain ⟨m, rfl⟩ : ∃ m : Nat, (m : Int) = a := ⟨a.toNat, by omega⟩
  obtain ⟨n, rfl⟩ : ∃ n : Nat, (n : Int) = b := ⟨b.toNat, by omega⟩
  rw [← cast_pow, ← Int.natCast_mul] at *
  have h' : m + n * 2 ^ c < 18446744073709551616 := by omega
  rw [u64_or_nat m (n * 2 ^ c) (by omega) (by omega), nat_or m n c (by omega)]; rfl
end Go.Proofs.Ytghngfeacpamhaa
