import Derived.Test.Qxb6630051aPlain
import Derived.WalkKit
import Derived.Lib.VarintBits
import Derived.Laws.BitsAllLaws
namespace Go.Proofs.Qxb6630051a
open Go.RowKit

theorem shl_u64 (z c : Nat) (yk : IntKind) (hc : c ≤ 64) (hz : z * 2 ^ c < 18446744073709551616) (x y : Int) (hx : x = z) (hy : y = c) :
    Op.shift .shl .u64 x yk y = pure (.int .u64 ((z * 2 ^ c : Nat) : Int)) := by
  subst hx hy
  rw [shift_shl .u64 yk _ _ (by omega) (by show (c : Int) ≤ 64; omega)]
  congr 2
  have e : ((z : Int) * 2 ^ ((c : Int)).toNat) = ((z * 2 ^ c : Nat) : Int) := by simp
  rw [e]
  generalize z * 2 ^ c = q at hz ⊢
  simp only [IntKind.wrap_u64]
  omega
theorem wrap_u64 (z c : Nat) (hz : z * 2 ^ c < 18446744073709551616) (x : Int) (hx : x = z) : IntKind.u64.wrap (x * 2 ^ c) = ((z * 2 ^ c : Nat) : Int) := by
  subst hx
  have e : ((z : Int) * 2 ^ c) = ((z * 2 ^ c : Nat) : Int) := by simp
  rw [e]
  generalize z * 2 ^ c = q at hz ⊢
  simp only [IntKind.wrap_u64]
  omega
theorem or_u64 (a z c : Nat) (ha : a < 2 ^ c) (h : a + z * 2 ^ c < 18446744073709551616) : bits .or .u64 (a : Int) ((z * 2 ^ c : Nat) : Int) = ((a + z * 2 ^ c : Nat) : Int) := by
  rw [u64_or_nat a (z * 2 ^ c) (by omega) (by omega)]
  congr 1
  have := Nat.two_pow_add_eq_or_of_lt ha z
  rw [Nat.or_comm, Nat.mul_comm, ← this, Nat.add_comm]

/-- One byte more: the facts that the walk uses. -/
theorem val_step (l : List Nat) (k y : Nat) (hy : l.getD k 0 = y) : val l (k + 1) = val l k + (y % 128) * 2 ^ (7 * k) := by
  subst hy; rfl
theorem step_bd (l : List Nat) (k y : Nat) (hk : k ≤ 8 ∨ (k = 9 ∧ y ≤ 1)) : val l k + (y % 128) * 2 ^ (7 * k) < 18446744073709551616 := by
  have h0 := val_lt l k
  rcases hk with hk | ⟨rfl, hy⟩
  · have h1 : (y % 128) * 2 ^ (7 * k) ≤ 127 * 2 ^ (7 * k) := Nat.mul_le_mul_right _ (by omega)
    have h2 : 2 ^ (7 * k) ≤ 2 ^ 56 := Nat.pow_le_pow_right (by decide) (by omega)
    omega
  · have e : (2 : Nat) ^ (7 * 9) = 9223372036854775808 := by decide
    rw [e] at h0 ⊢
    omega
end Go.Proofs.Qxb6630051a
