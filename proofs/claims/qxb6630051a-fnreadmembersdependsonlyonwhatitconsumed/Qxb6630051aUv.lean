import Derived.Test.Qxb6630051aRows
import Derived.Test.Qxb6630051aBits
import Derived.WalkSpells
import Derived.WalkLawsBesides
import Derived.RowKit3
namespace Go.Proofs.Qxb6630051a
open Go.RowKit

theorem hid_mk {p : Prop} (h : p) : Hid p := h
theorem ret_tup {a b a' b' : Value} (h : a = a') (h' : b = b') : Ending.returned (.tuple #[a, b]) = .returned (.tuple #[a', b']) := by rw [h, h']
theorem ret_tup3 {a b c a' b' c' : Value} (h : a = a') (h' : b = b') (h'' : c = c') : Ending.returned (.tuple #[a, b, c]) = .returned (.tuple #[a', b', c']) := by rw [h, h', h'']

/-- A row of bytes from an address on. -/
def Row (w : World) (B off : Nat) (l : List Nat) : Prop := (∀ j, l.getD j 0 < 256) ∧ ∀ j, j < l.length → w.cell? ⟨B, off + j, none⟩ = some (.int .u8 (l.getD j 0 : Nat))

set_option maxRecDepth 100000 in
set_option maxHeartbeats 1000000 in
theorem uv_walk (l : List Nat) (B off cap : Nat) (w : World) (hr : Row w B off l) (hlen : l.length ≤ 2097152) :
    Calls Try.prog 12 #[.slice (some ⟨B, off, none⟩) l.length cap] w fun e w' => (∃ x y : Int, e = .returned (.tuple #[.int .u64 x, .int .i64 y]) ∧ ((∃ v n : Nat, uv l = some (v, n) ∧ x = v ∧ y = n) ∨ (uv l = none ∧ x = 0 ∧ y ≤ 0))) ∧ w' = w := by
  go_enter Try.func12, Try.ntmps12
  go_wp2
  go_loop [4, 5, 10] (fun x s i => ∃ (k : Nat) (X : Int), k ≤ 10 ∧ Hid (Hi l k) ∧ x = .int .u64 X ∧ Hid (k ≤ 9 → X = val l k) ∧ s = .int .u64 (7 * (k : Int)) ∧ i = .int .i64 k) (fun _ _ i => l.length - (intOf i).toNat)
  case atStart => exact ⟨0, 0, by omega, hid_mk (Hi.zero l), rfl, hid_mk (fun _ => rfl), rfl, rfl⟩
  case round =>
    obtain ⟨k, X, hk, hh, rfl, hX, rfl, rfl⟩ := hrel
    have hkl : k ≤ l.length := hh.out.1
    by_cases hlt : k < l.length
    · have hc := hr.2 k hlt
      have hb := hr.1 k
      obtain ⟨y, hy⟩ : ∃ y, l.getD k 0 = y := ⟨_, rfl⟩
      rw [hy] at hc hb
      have HY := hid_mk hy
      clear hy
      by_cases h10 : k = 10
      · subst h10
        go_wp2
        go_ret2
        exact ⟨⟨_, _, rfl, .inr ⟨uv_over hh.out (by omega), rfl, by omega⟩⟩, rfl⟩
      · have h10' : ((k : Int) == 10) = false := beq_eq_false_iff_ne.2 (by omega)
        have hXv := hX.out (by omega)
        by_cases hy : y < 128
        · by_cases h9 : k = 9 ∧ 1 < y
          · obtain ⟨rfl, h91⟩ := h9
            go_wp2
            go_ret2
            exact ⟨⟨_, _, rfl, .inr ⟨uv_nine hh.out hlt (by rw [HY.out]; exact hy) (.inr ⟨rfl, by rw [HY.out]; exact h91⟩), rfl, by omega⟩⟩, rfl⟩
          · have hbd := step_bd l k y (by omega)
            have e128 : y % 128 = y := by omega
            rw [e128] at hbd
            have hsh := shl_u64 y (7 * k) .u64 (by omega) (by omega) (y : Int) (7 * (k : Int)) rfl (by omega)
            have hwr := wrap_u64 y (7 * k) (by omega) (y : Int) rfl
            have hor := or_u64 (val l k) y (7 * k) (val_lt l k) hbd
            rw [← hXv] at hor
            have HST : Hid (val l k + y * 2 ^ (7 * k) = val l (k + 1)) := by rw [val_step l k y HY.out, e128]; exact rfl
            clear e128 hXv
            generalize y * 2 ^ (7 * k) = Z at *
            have hg9 : k = 9 ∨ ¬ k = 9 := by omega
            have hend : uv l = some (val l (k + 1), k + 1) := uv_stop hh.out hlt (by rw [HY.out]; exact hy) (by omega) (by rw [HY.out]; omega)
            have HE := hid_mk hend
            clear hend
            rcases hg9 with h9n | h9n
            · have hy1 : ¬ 1 < y := by omega
              have h9' : ((k : Int) == 9) = true := beq_iff_eq.2 (by omega)
              clear h9n
              go_wp2
              go_ret2
              exact ⟨⟨_, _, rfl, .inl ⟨_, _, HE.out, by have := HST.out; omega, rfl⟩⟩, rfl⟩
            · have h9' : ((k : Int) == 9) = false := beq_eq_false_iff_ne.2 (by omega)
              go_wp2
              go_ret2
              exact ⟨⟨_, _, rfl, .inl ⟨_, _, HE.out, by have := HST.out; omega, rfl⟩⟩, rfl⟩
        · have q : bits .and .u8 (y : Int) 127 = (y : Int) % 128 := u8_and127 (y : Int) (by omega) (by omega)
          have HI := hid_mk (hh.out.succ hlt (by rw [HY.out]; omega))
          by_cases h9 : k = 9
          · subst h9
            obtain ⟨Z, hZ⟩ : ∃ Z : Int, Op.shift .shl .u64 ((y : Int) % 128) .u64 (7 * ((9 : Nat) : Int)) = pure (.int .u64 Z) := ⟨_, shift_shl .u64 .u64 _ _ (by omega) (by show _ ≤ (64 : Int); omega)⟩
            clear hXv
            go_wp2
            go_round
            case rel => exact ⟨10, _, by omega, HI, rfl, hid_mk (by omega), by go_num, by go_num⟩
            case measure => simp [intOf]; omega
          · have hbd := step_bd l k y (by omega)
            have hsh := shl_u64 (y % 128) (7 * k) .u64 (by omega) (by omega) ((y : Int) % 128) (7 * (k : Int)) (by omega) (by omega)
            have hwr := wrap_u64 (y % 128) (7 * k) (by omega) ((y : Int) % 128) (by omega)
            have hor := or_u64 (val l k) (y % 128) (7 * k) (val_lt l k) hbd
            rw [← hXv] at hor
            have HST : Hid (val l k + y % 128 * 2 ^ (7 * k) = val l (k + 1)) := by rw [val_step l k y HY.out]; exact rfl
            clear hXv
            generalize y % 128 * 2 ^ (7 * k) = Z at *
            go_wp2
            go_round
            case rel => exact ⟨k + 1, _, by omega, HI, rfl, hid_mk (fun _ => by have := HST.out; omega), by go_num, by go_num⟩
            case measure => simp [intOf]; omega
    · have e : k = l.length := by omega
      subst e
      go_wp2
      go_ret2
      exact ⟨⟨_, _, rfl, .inr ⟨uv_end hh.out, rfl, by omega⟩⟩, rfl⟩
end Go.Proofs.Qxb6630051a
