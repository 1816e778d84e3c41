import Derived.Test.Qxb6630003aRows
import Derived.Test.Qxb6630003aPlain
import Derived.WalkKit
import Derived.WalkSpells
import Derived.WalkLawsBesides
import Derived.RowKit3
namespace Go.Proofs.Qxb6630003a
open Go.RowKit

theorem hid_mk {p : Prop} (h : p) : Hid p := h
theorem ret_int {k : IntKind} {a b : Int} (h : a = b) : Ending.returned (.int k a) = .returned (.int k b) := by rw [h]
theorem ret_bool {a b : Bool} (h : a = b) : Ending.returned (.bool a) = .returned (.bool b) := by rw [h]
theorem plain_cases (n : Nat) : (97 ≤ n ∧ n ≤ 122) ∨ (65 ≤ n ∧ n ≤ 90) ∨ (48 ≤ n ∧ n ≤ 57) ∨ n = 95 ∨ n = 45 ∨ n = 46 ∨ (0 ≤ n ∧ n < 45) ∨ n = 47 ∨ (57 < n ∧ n < 65) ∨ (90 < n ∧ n < 95) ∨ n = 96 ∨ (122 < n ∧ 0 ≤ n) := by omega

/-- 'zzPlain'. -/
theorem plain_any (n : Nat) (w : World) : Calls Try.prog 12 #[.int .u8 (n : Int)] w fun e w' => e = .returned (.bool (plainC n)) ∧ w' = w := by
  rcases plain_cases n with h | h | h | h | h | h | h | h | h | h | h | h
  all_goals try subst h
  all_goals try obtain ⟨h1, h2⟩ := h
  all_goals
    go_enter Try.func12, Try.ntmps12
    go_wp2
    go_ret
    exact ⟨ret_bool (by unfold plainC; first | decide | (rw [Bool.eq_iff_iff]; simp; omega)), rfl⟩

/-- 'isItemChar', at a byte. -/
theorem item_any (n : Nat) (w : World) : Calls Try.prog 11 #[.int .i32 (n : Int)] w fun e w' => e = .returned (.bool (plainC n || n == 46)) ∧ w' = w := by
  rcases plain_cases n with h | h | h | h | h | h | h | h | h | h | h | h
  all_goals try subst h
  all_goals try obtain ⟨h1, h2⟩ := h
  all_goals
    go_enter Try.func11, Try.ntmps11
    go_wp2
    go_ret
    exact ⟨ret_bool (by unfold plainC; first | decide | (rw [Bool.eq_iff_iff]; simp; omega)), rfl⟩

end Go.Proofs.Qxb6630003a
