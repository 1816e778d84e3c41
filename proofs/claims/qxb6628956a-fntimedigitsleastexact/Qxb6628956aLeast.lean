import Derived.Test.Qxb6628956aMirror
namespace Go.Proofs.Qxb6628956a
open Go.RowKit

set_option maxHeartbeats 1000000 in
theorem least_skip (a0 a1 a2 : Int) (w : World) (h0 : -9223372036854775808 ≤ a0) (h1 : a0 ≤ 9223372036854775807) (h2 : 0 ≤ a1) (h3 : a1 ≤ 65535) (h4 : -9223372036854775808 ≤ a2) (h5 : a2 ≤ 9223372036854775807)
    (hs : 999 < a1 ∨ a2 < -1099511627776 ∨ 1099511627776 < a2 ∨ (0 < a2 ∧ 9223372036854775807 - a2 * 1000000 < a0) ∨ (a2 < 0 ∧ a0 < -9223372036854775808 - a2 * 1000000)) :
    Calls Try.prog 3 #[.int .i64 a0, .int .u16 a1, .int .i64 a2] w fun e w' => e = .returned (.bool true) ∧ Grown w w' := by
  by_cases c1 : 999 < a1
  · go_enter Try.func3, Try.ntmps3
    go_wp2
    go_ret
    exact ⟨rfl, Grown.refl _⟩
  by_cases c2 : a2 < -1099511627776
  · go_enter Try.func3, Try.ntmps3
    go_wp2
    go_ret
    exact ⟨rfl, Grown.refl _⟩
  by_cases c3 : 1099511627776 < a2
  · go_enter Try.func3, Try.ntmps3
    go_wp2
    go_ret
    exact ⟨rfl, Grown.refl _⟩
  by_cases c4 : 0 < a2
  · have c5 : 9223372036854775807 - a2 * 1000000 < a0 := by omega
    have c6 : 0 < a2 * 1000000 := by omega
    clear hs
    go_enter Try.func3, Try.ntmps3
    go_wp2
    go_ret
    exact ⟨rfl, Grown.refl _⟩
  · have c5 : a0 < -9223372036854775808 - a2 * 1000000 := by omega
    have c6 : a2 * 1000000 < 0 := by omega
    clear hs
    go_enter Try.func3, Try.ntmps3
    go_wp2
    go_ret
    exact ⟨rfl, Grown.refl _⟩

theorem pow_pos_bd (n : Nat) (h : n ≤ 9) : 1 ≤ (10 : Int) ^ n ∧ (10 : Int) ^ n ≤ 1000000000 := by
  have h8 : n = 0 ∨ n = 1 ∨ n = 2 ∨ n = 3 ∨ n = 4 ∨ n = 5 ∨ n = 6 ∨ n = 7 ∨ n = 8 ∨ n = 9 := by omega
  rcases h8 with rfl | rfl | rfl | rfl | rfl | rfl | rfl | rfl | rfl | rfl <;> decide

theorem pow_eq (x : Int) (n : Nat) (T : Int) (hx : x = n) (hn : n ≤ 9) (hT : Hid ((10 : Int) ^ n = T)) (w : World) :
    Calls Try.prog 8 #[.int .i64 x] w fun e w' => e = .returned (.int .i64 T) ∧ w' = w := by
  subst hx; rw [← hT.out]; exact pow_any n hn w

set_option maxHeartbeats 1000000 in
theorem least_go (a0 a1 a2 : Int) (w : World) (_h0 : -9223372036854775808 ≤ a0) (_h1 : a0 ≤ 9223372036854775807) (h2 : 0 ≤ a1) (h3 : a1 ≤ 999) (h4 : -1099511627776 ≤ a2) (h5 : a2 ≤ 1099511627776)
    (hs : -9223372036854775808 ≤ a0 + a2 * 1000000) (ht : a0 + a2 * 1000000 ≤ 9223372036854775807) :
    Calls Try.prog 3 #[.int .i64 a0, .int .u16 a1, .int .i64 a2] w fun e w' => e = .returned (.bool true) ∧ Grown w w' := by
  obtain ⟨P, hP, hlt⟩ := past_nat a0 a1 (by omega) (by omega)
  obtain ⟨D, hD⟩ : ∃ D, dg 9 (P : Int) = D := ⟨_, rfl⟩
  have h9 : D ≤ 9 := by rw [← hD]; exact dg_le 9 _
  obtain ⟨T, hT⟩ : ∃ T, (10 : Int) ^ (9 - D) = T := ⟨_, rfl⟩
  have hT1 : 1 ≤ T := by rw [← hT]; exact (pow_pos_bd _ (by omega)).1
  have hT2 : T ≤ 1000000000 := by rw [← hT]; exact (pow_pos_bd _ (by omega)).2
  have hT0 : ((P : Int) % T == 0) = true := by rw [← hT, ← hD]; simpa using least_yes (P : Int)
  have hT0' : ((P : Int) % T != 0) = false := by rw [bne, hT0]; rfl
  have HP : Hid (past a0 a1 = P) := hP
  have HT : Hid ((10 : Int) ^ (9 - D) = T) := hT
  have HD : Hid (dg 9 (P : Int) = D) := hD
  have HD1 : Hid (dg 9 (past a0 a1) = D) := by rw [hP]; exact hD
  have HD2 : Hid (dg 9 (past (a0 + a2 * 1000000) a1) = D) := by rw [past_shift, hP]; exact hD
  clear hP hD hT
  have hcase : (0 < a2 * 1000000 ∧ a0 ≤ 9223372036854775807 - a2 * 1000000 ∧ ¬ a2 * 1000000 < 0) ∨ (¬ 0 < a2 * 1000000 ∧ a2 * 1000000 < 0 ∧ -9223372036854775808 - a2 * 1000000 ≤ a0) ∨ (¬ 0 < a2 * 1000000 ∧ ¬ a2 * 1000000 < 0) := by omega
  rcases hcase with ⟨k1, k2, k3⟩ | ⟨k1, k2, k3⟩ | ⟨k1, k2⟩
  all_goals
    go_enter Try.func3, Try.ntmps3
    go_wp2_with fail
    refine (new_any _ _ _).mono ?_
    rintro e w1 ⟨rfl, c, rfl⟩
    go_wp2_with fail
    refine (digits_eq _ _ D (by omega) (by omega) HD1 _).mono ?_
    rintro e w2 ⟨rfl, g2⟩
    go_wp2_with fail
    refine (new_any _ _ _).mono ?_
    rintro e w3 ⟨rfl, c3, rfl⟩
    go_wp2_with fail
    refine (digits_eq _ _ D (by omega) (by omega) HD2 _).mono ?_
    rintro e w4 ⟨rfl, g4⟩
    go_wp2_with fail
    refine (pastn_eq _ _ P (by omega) (by omega) HP _).mono ?_
    rintro e w5 ⟨rfl, rfl⟩
    have hgr : Grown w w5 := grown_trans (grown_trans ((Grown.refl _).alloc _ _) g2) (grown_trans ((Grown.refl _).alloc _ _) g4)
    clear g2 g4
    go_wp2_with fail
    refine (pow_eq _ (9 - D) T (by omega) (by omega) HT _).mono ?_
    rintro e w6 ⟨rfl, rfl⟩
    by_cases hd0 : 0 < D
    · obtain ⟨U, hU⟩ : ∃ U, (10 : Int) ^ (10 - D) = U := ⟨_, rfl⟩
      have hU1 : 1 ≤ U := by rw [← hU]; exact (pow_pos_bd _ (by omega)).1
      have hU2 : U ≤ 1000000000 := by rw [← hU]; exact (pow_pos_bd _ (by omega)).2
      have hU0 : ((P : Int) % U == 0) = false := by
        rw [← hU]; have := least_no (P : Int) (by rw [HD.out]; exact hd0); rw [HD.out] at this; simpa using this
      have HU : Hid ((10 : Int) ^ (10 - D) = U) := hU
      clear hU
      go_wp2_with fail
      refine (pow_eq _ (10 - D) U (by omega) (by omega) HU _).mono ?_
      rintro e w7 ⟨rfl, rfl⟩
      go_wp2
      go_ret
      exact ⟨rfl, hgr⟩
    · have hd0' : D = 0 := by omega
      subst hd0'
      go_wp2
      go_ret
      exact ⟨rfl, hgr⟩

end Go.Proofs.Qxb6628956a
