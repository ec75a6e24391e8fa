import Derived.Test.Qxb6630841aRows
import Derived.WalkKit
import Derived.Laws.BitsAllLaws
namespace Go.Proofs.Qxb6630841a
open Go.RowKit

theorem and_mask (x : Int) (h0 : 0 ≤ x) (h1 : x < 1000000000) : bits .and .u64 x 1073741823 = x := by
  rw [u64_and x 1073741823 h0 (by omega) (by omega) (by omega)]
  have h2 : x.toNat < 2 ^ 30 := by omega
  have e : (1073741823 : Int).toNat = 2 ^ 30 - 1 := by decide
  rw [e, Nat.and_two_pow_sub_one_eq_mod, Nat.mod_eq_of_lt h2]
  omega

theorem and_mono (x : Int) (h0 : 0 ≤ x) (h1 : x < 1000000000) : bits .and .u64 x 9223372036854775808 = 0 := by
  rw [u64_and x 9223372036854775808 h0 (by omega) (by omega) (by omega)]
  have e : (9223372036854775808 : Int).toNat = 2 ^ 63 := by decide
  rw [e]
  have h2 : x.toNat < 2 ^ 63 := by omega
  have : x.toNat &&& 2 ^ 63 = 0 := by
    apply Nat.eq_of_testBit_eq
    intro i
    rw [Nat.testBit_and, Nat.zero_testBit]
    by_cases hi : i = 63
    · subst hi
      rw [Nat.testBit_lt_two_pow h2]; simp
    · rw [Nat.testBit_two_pow_of_ne (fun h => hi h.symm)]; simp
  rw [this]; rfl

theorem and_both (x y : Int) (h0 : 0 ≤ x) (h1 : x < 1000000000) (k0 : 0 ≤ y) (k1 : y < 1000000000) : bits .and .u64 (bits .and .u64 x y) 9223372036854775808 = 0 := by
  rw [u64_and x y h0 (by omega) k0 (by omega)]
  have h : (x.toNat &&& y.toNat) ≤ x.toNat := Nat.and_le_left
  exact and_mono _ (by omega) (by omega)

theorem or_zero (x : Int) (h0 : 0 ≤ x) (h1 : x < 1000000000) : bits .or .u64 0 x = x := by
  rw [u64_or 0 x (by omega) (by omega) h0 (by omega)]
  simp; omega

theorem and0 : bits .and .u64 0 1073741823 = 0 := and_mask 0 (by omega) (by omega)
theorem andNot0 : bits .andNot .u64 0 1073741823 = 0 := by kernel_rfl

theorem cell_row {w : World} {b t : Nat} {cur : Array Value} (h : w.heap[b]? = some (.cells cur t (0, 0))) (k : Nat) : w.cell? ⟨b, k, none⟩ = cur[k]? := by
  simp [World.cell?, h]
theorem frozen_row {w : World} {b t : Nat} {cur : Array Value} (h : w.heap[b]? = some (.cells cur t (0, 0))) (k : Nat) : w.frozen? ⟨b, k, none⟩ = false := by
  simp [World.frozen?, h]
theorem row3 {w : World} {b t : Nat} {a0 a1 a2 : Value} (h : w.heap[b]? = some (.cells #[a0, a1, a2] t (0, 0))) :
    w.cell? ⟨b, 0, none⟩ = some a0 ∧ w.cell? ⟨b, 1, none⟩ = some a1 ∧ w.cell? ⟨b, 2, none⟩ = some a2 ∧ (∀ k, w.frozen? ⟨b, k, none⟩ = false) := by
  refine ⟨?_, ?_, ?_, fun k => frozen_row h k⟩ <;> rw [cell_row h] <;> rfl
end Go.Proofs.Qxb6630841a
