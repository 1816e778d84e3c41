import Derived.Test.Qxb6628956aRows
import Derived.Test.Qxb6628956aPlain
import Derived.WalkKit
import Derived.WalkSpells
import Derived.WalkLawsBesides
import Derived.RowKit3
import Derived.Deep.RegionWith
namespace Go.Proofs.Qxb6628956a
open Go.RowKit

theorem hid_mk {p : Prop} (h : p) : Hid p := h
theorem ret_int {k : IntKind} {a b : Int} (h : a = b) : Ending.returned (.int k a) = .returned (.int k b) := by rw [h]

/-- 'Digits(0)': a second, in microseconds. -/
theorem unit_any (w : World) : Calls Try.prog 10 #[.int .i64 0] w fun e w' => e = .returned (.int .i64 1000000) ∧ w' = w := by
  go_enter Try.func10, Try.ntmps10
  go_wp2
  go_loop [3, 6] (fun u i => ∃ k : Nat, k ≤ 6 ∧ i = .int .i64 k ∧ u = .int .i64 ((10 : Int) ^ k)) (fun _ i => 6 - (intOf i).toNat)
  case atStart => exact ⟨0, by omega, rfl, rfl⟩
  case round =>
    obtain ⟨k, hk, rfl, rfl⟩ := hrel
    by_cases hlt : k < 6
    · have hb : (10 : Int) ^ k ≤ 100000000 := by
        have h8 : k = 0 ∨ k = 1 ∨ k = 2 ∨ k = 3 ∨ k = 4 ∨ k = 5 := by omega
        rcases h8 with rfl | rfl | rfl | rfl | rfl | rfl <;> decide
      have hb0 : 0 ≤ (10 : Int) ^ k := Int.pow_nonneg (by decide)
      go_wp2
      go_round
      case rel => exact ⟨k + 1, by omega, by go_num, by rw [Int.pow_succ]⟩
      case measure => simp [intOf]; omega
    · have e : k = 6 := by omega
      subst e
      go_wp2
      go_ret
      exact ⟨rfl, rfl⟩

/-- 'zzPow10(n)', n to 9. -/
theorem pow_any (n : Nat) (hn : n ≤ 9) (w : World) : Calls Try.prog 8 #[.int .i64 n] w fun e w' => e = .returned (.int .i64 ((10 : Int) ^ n)) ∧ w' = w := by
  go_enter Try.func8, Try.ntmps8
  go_wp2
  go_loop [3, 4] (fun u i => ∃ k : Nat, k ≤ n ∧ i = .int .i64 k ∧ u = .int .i64 ((10 : Int) ^ k)) (fun _ i => n - (intOf i).toNat)
  case atStart => exact ⟨0, by omega, rfl, rfl⟩
  case round =>
    obtain ⟨k, hk, rfl, rfl⟩ := hrel
    by_cases hlt : k < n
    · have hb : (10 : Int) ^ k ≤ 100000000 := by
        have h8 : k = 0 ∨ k = 1 ∨ k = 2 ∨ k = 3 ∨ k = 4 ∨ k = 5 ∨ k = 6 ∨ k = 7 ∨ k = 8 := by omega
        rcases h8 with rfl | rfl | rfl | rfl | rfl | rfl | rfl | rfl | rfl <;> decide
      have hb0 : 0 ≤ (10 : Int) ^ k := Int.pow_nonneg (by decide)
      go_wp2
      go_round
      case rel => exact ⟨k + 1, by omega, by go_num, by rw [Int.pow_succ]⟩
      case measure => simp [intOf]; omega
    · have e : k = n := by omega
      subst e
      go_wp2
      go_ret
      exact ⟨rfl, rfl⟩

theorem tm_bd (mi : Int) : -999999 ≤ mi.tmod 1000000 ∧ mi.tmod 1000000 ≤ 999999 := by
  rw [Int.tmod_eq_emod]; split <;> omega
theorem tm_neg (mi : Int) (h : mi.tmod 1000000 < 0) : mi.tmod 1000000 + 1000000 = mi % 1000000 := by
  rw [Int.tmod_eq_emod] at h ⊢
  by_cases c : 0 ≤ mi ∨ (1000000 : Int) ∣ mi
  · rw [if_pos c] at h; omega
  · rw [if_neg c]; omega
theorem tm_pos (mi : Int) (h : 0 ≤ mi.tmod 1000000) : mi.tmod 1000000 = mi % 1000000 := by
  rw [Int.tmod_eq_emod] at h ⊢
  by_cases c : 0 ≤ mi ∨ (1000000 : Int) ∣ mi
  · rw [if_pos c]; omega
  · rw [if_neg c] at h; omega

/-- 'zzPastNanos'. -/
theorem pastn_any (mi na : Int) (h0 : 0 ≤ na) (h1 : na ≤ 999) (w : World) :
    Calls Try.prog 7 #[.int .i64 mi, .int .u16 na] w fun e w' => e = .returned (.int .i64 (past mi na)) ∧ w' = w := by
  have hb1 := (tm_bd mi).1
  have hb2 := (tm_bd mi).2
  go_enter Try.func7, Try.ntmps7
  go_wp2
  · go_ret
    exact ⟨ret_int (by unfold past; rw [tm_neg mi ‹_›]), rfl⟩
  · go_ret
    exact ⟨ret_int (by unfold past; rw [tm_pos mi ‹_›]), rfl⟩

theorem ret_pair {a b b' : Int} (h : b = b') : ∃ x, Ending.returned (.tuple #[.int .i64 a, .int .i64 b]) = .returned (.tuple #[.int .i64 x, .int .i64 b']) := ⟨a, by rw [h]⟩

/-- 'floor', at a second. -/
theorem floor_any (mi na : Int) (w : World) :
    Calls Try.prog 9 #[.agg #[.int .i64 mi, .int .u16 na], .int .i64 1000000] w fun e w' => (∃ x, e = .returned (.tuple #[.int .i64 x, .int .i64 (mi % 1000000)])) ∧ ∃ c : Array Value, w' = w.alloc (.cells c 24) := by
  have hb1 := (tm_bd mi).1
  have hb2 := (tm_bd mi).2
  go_enter Try.func9, Try.ntmps9
  go_wp2
  · go_ret2
    exact ⟨ret_pair (tm_neg mi ‹_›), _, rfl⟩
  · go_ret2
    exact ⟨ret_pair (tm_pos mi ‹_›), _, rfl⟩

/-- 'ZZnewTime'. -/
theorem new_any (mi na : Int) (w : World) :
    Calls Try.prog 5 #[.int .i64 mi, .int .u16 na] w fun e w' => e = .returned (.agg #[.int .i64 mi, .int .u16 na]) ∧ ∃ c : Array Value, w' = w.alloc (.cells c 24) := by
  go_enter Try.func5, Try.ntmps5
  go_wp2
  exact bodyPost_ret (v := .agg #[.int .i64 mi, .int .u16 na]) (by simp [results, Try.results5, go_sem]) rfl ⟨rfl, _, rfl⟩

set_option maxHeartbeats 400000 in
/-- '(Time).Digits'. -/
theorem digits_any (mi na : Int) (h0 : 0 ≤ na) (h1 : na ≤ 999) (w : World) :
    Calls Try.prog 6 #[.agg #[.int .i64 mi, .int .u16 na]] w fun e w' => e = .returned (.int .i64 (dg 9 (past mi na))) ∧ Grown w w' := by
  have hm1 : 0 ≤ mi % 1000000 := by omega
  have hm2 : mi % 1000000 ≤ 999999 := by omega
  go_enter Try.func6, Try.ntmps6
  go_wp2
  go_region_with (first
    | (go_at_call 10; refine (unit_any _).mono ?_; rintro e w' ⟨rfl, rfl⟩)
    | (go_at_call 9; refine (floor_any mi na _).mono ?_; rintro e w' ⟨⟨x, rfl⟩, c, rfl⟩))
  all_goals
    go_wp2
    go_loop [5, 6] (fun q d => ∃ (n : Nat) (x : Int), n ≤ 9 ∧ 0 ≤ x ∧ x ≤ 999999999 ∧ d = .int .i64 n ∧ q = .int .i64 x ∧ Hid (dg n x = dg 9 (past mi na))) (fun _ d => (intOf d).toNat)
    case atStart => exact ⟨9, past mi na, by omega, (past_bd mi na h0 h1).1, (past_bd mi na h0 h1).2, rfl, rfl, hid_mk rfl⟩
    case round =>
      obtain ⟨n, x, hn, hx0, hx1, rfl, rfl, hd⟩ := hrel
      by_cases hlt : 0 < n
      · by_cases h10 : x % 10 = 0
        · go_wp2
          go_round
          case rel => exact ⟨n - 1, x / 10, by omega, by omega, by omega, by go_num, rfl, hid_mk (by rw [← hd.out]; exact (dg_step n x hlt h10).symm)⟩
          case measure => simp [intOf]; omega
        · have h10' : (x % 10 == 0) = false := by simpa using h10
          go_wp2
          go_ret
          exact ⟨ret_int (by rw [← hd.out, dg_stop n x hlt h10]), by repeat (first | exact Grown.refl _ | apply Grown.drew | apply Grown.alloc)⟩
      · have e : n = 0 := by omega
        subst e
        go_wp2
        go_ret
        exact ⟨ret_int (by rw [← hd.out]; rfl), by repeat (first | exact Grown.refl _ | apply Grown.drew | apply Grown.alloc)⟩

end Go.Proofs.Qxb6628956a
