import Derived.Test.Qxb6628956aLeaves
import Derived.OpenShut
namespace Go.Proofs.Qxb6628956a
open Go.RowKit

theorem digits_eq (mi na : Int) (D : Nat) (h0 : 0 ≤ na) (h1 : na ≤ 999) (h : Hid (dg 9 (past mi na) = D)) (w : World) :
    Calls Try.prog 6 #[.agg #[.int .i64 mi, .int .u16 na]] w fun e w' => e = .returned (.int .i64 D) ∧ Grown w w' := by
  rw [← h.out]; exact digits_any mi na h0 h1 w
theorem pastn_eq (mi na : Int) (P : Nat) (h0 : 0 ≤ na) (h1 : na ≤ 999) (h : Hid (past mi na = P)) (w : World) :
    Calls Try.prog 7 #[.int .i64 mi, .int .u16 na] w fun e w' => e = .returned (.int .i64 P) ∧ w' = w := by
  rw [← h.out]; exact pastn_any mi na h0 h1 w

theorem past_nat (mi na : Int) (h0 : 0 ≤ na) (h1 : na ≤ 999) : ∃ P : Nat, past mi na = P ∧ P < 1000000000 := by
  have := past_bd mi na h0 h1
  exact ⟨(past mi na).toNat, by omega, by omega⟩

/-- The mirrored moment of one without nanoseconds has the same digits (the least int64 is its own mirror). -/
theorem mir0 (a0 : Int) (h0 : -9223372036854775808 ≤ a0) (h1 : a0 ≤ 9223372036854775807) : dg 9 (past (wrap64 (-a0)) 0) = dg 9 (past a0 0) := by
  by_cases c : a0 = -9223372036854775808
  · have e : wrap64 (-a0) = a0 := by unfold wrap64; omega
    rw [e]
  · have e : wrap64 (-a0) = -a0 := by unfold wrap64; omega
    rw [e]
    by_cases c0 : past a0 0 = 0
    · have : past (-a0) 0 = 0 := by unfold past at *; omega
      rw [this, c0]
    · have : past (-a0) 0 = 1000000000 - past a0 0 := by unfold past at *; omega
      rw [this, dg_mirror]
theorem not64 (a : Int) (h0 : -9223372036854775808 ≤ a) (h1 : a ≤ 9223372036854775807) : bits .xor .i64 (-1) a = -a - 1 := by
  show IntKind.i64.wrap ((BitVec.ofInt 64 (-1) ^^^ BitVec.ofInt 64 a).toNat : Int) = _
  have h1 : BitVec.ofInt 64 (-1) = BitVec.allOnes 64 := by decide
  rw [h1, BitVec.allOnes_xor, BitVec.toNat_not, BitVec.toNat_ofInt]
  simp [IntKind.wrap, IntKind.bits, IntKind.signed]
  omega
theorem mir1 (a0 a1 : Int) (h0 : -9223372036854775808 ≤ a0) (h1 : a0 ≤ 9223372036854775807) : dg 9 (past (bits .xor .i64 (-1) a0) (1000 - a1)) = dg 9 (past a0 a1) := by
  rw [not64 a0 h0 h1, past_mirror, dg_mirror]
theorem grown_trans {a b c : World} (h1 : Grown a b) (h2 : Grown b c) : Grown a c :=
  ⟨World.keptBut_trans h1.1 h2.1, fun x => (h2.2.1 x).trans (h1.2.1 x), Nat.le_trans h1.2.2 h2.2.2⟩

theorem half (k x P b : Nat) (h : x * b ^ k = P) (e : x % b = 0) : x / b * b ^ (k + 1) = P := by
  rw [← h, Nat.pow_succ, Nat.mul_comm (b ^ k) b, ← Nat.mul_assoc, Nat.div_mul_cancel (Nat.dvd_of_mod_eq_zero e)]
theorem half_le (x b : Nat) (hb : 2 ≤ b) (h : 0 < x) (e : x % b = 0) : x / b + 1 ≤ x ∧ 0 < x / b := by
  have h1 := Nat.div_mul_cancel (Nat.dvd_of_mod_eq_zero e)
  have h2 : 0 < x / b := by
    rcases Nat.eq_zero_or_pos (x / b) with h | h
    · rw [h] at h1; omega
    · exact h
  have h3 : x / b * 2 ≤ x / b * b := Nat.mul_le_mul_left _ hb
  omega

set_option maxHeartbeats 1000000 in
theorem mirror_zero (a0 : Int) (w : World) (h0 : -9223372036854775808 ≤ a0) (h1 : a0 ≤ 9223372036854775807) :
    Calls Try.prog 4 #[.int .i64 a0, .int .u16 0] w fun e w' => e = .returned (.bool true) ∧ Grown w w' := by
  obtain ⟨P, hP, hlt⟩ := past_nat a0 0 (by omega) (by omega)
  obtain ⟨D, hD⟩ : ∃ D, dg 9 (P : Int) = D := ⟨_, rfl⟩
  have HP : Hid (past a0 0 = P) := hP
  have HD : Hid (dg 9 (P : Int) = D) := hD
  have HD1 : Hid (dg 9 (past a0 0) = D) := by rw [hP]; exact hD
  have HD2 : Hid (dg 9 (past (wrap64 (-a0)) 0) = D) := (mir0 a0 h0 h1).trans HD1.out
  clear hP hD
  go_enter Try.func4, Try.ntmps4
  go_wp2_with fail
  refine (new_any _ _ _).mono ?_
  rintro e w1 ⟨rfl, c, rfl⟩
  go_wp2_with fail
  refine (digits_eq _ _ D (by omega) (by omega) HD1 _).mono ?_
  rintro e w2 ⟨rfl, g2⟩
  go_wp2_with fail
  refine (new_any _ _ _).mono ?_
  rintro e w3 ⟨rfl, c3, rfl⟩
  go_wp2_with fail
  refine (digits_eq _ _ D (by omega) (by omega) HD2 _).mono ?_
  rintro e w4 ⟨rfl, g4⟩
  go_wp2_with fail
  refine (pastn_eq _ _ P (by omega) (by omega) HP _).mono ?_
  rintro e w5 ⟨rfl, rfl⟩
  have hgr : Grown w w5 := grown_trans (grown_trans ((Grown.refl _).alloc _ _) g2) (grown_trans ((Grown.refl _).alloc _ _) g4)
  clear g2 g4
  by_cases hp0 : P = 0
  · have hD0 : D = 0 := by rw [← HD.out, hp0]; rfl
    subst hp0 hD0
    go_wp2
    go_ret
    exact ⟨rfl, hgr⟩
  · have hp0' : ((P : Int) == 0) = false := by simpa using hp0
    go_wp2
    go_loop [11, 12] (fun v q => ∃ k x : Nat, 0 < x ∧ k + x ≤ P ∧ v = .int .i64 k ∧ q = .int .i64 x ∧ Hid (x * 2 ^ k = P)) (fun _ q => (intOf q).toNat)
    case atStart => exact ⟨0, P, by omega, by omega, rfl, rfl, hid_mk (by simp)⟩
    case round =>
      obtain ⟨a, x, hx0, hxl, rfl, rfl, hx⟩ := hrel
      by_cases hm : x % 2 = 0
      · have hm' : ((x : Int) % 2 == 0) = true := by simp; omega
        have hl := half_le x 2 (by omega) hx0 hm
        go_wp2
        go_round
        case rel => exact ⟨a + 1, x / 2, hl.2, by omega, by go_num, by go_num, hid_mk (half _ _ _ _ hx.out hm)⟩
        case measure => simp [intOf]; omega
      · have hm' : ((x : Int) % 2 == 0) = false := by simp; omega
        go_wp2
        go_loop [13, 12] (fun v q => ∃ k x : Nat, 0 < x ∧ k + x ≤ P ∧ v = .int .i64 k ∧ q = .int .i64 x ∧ Hid (x * 5 ^ k = P)) (fun _ q => (intOf q).toNat)
        case atStart => exact ⟨0, P, by omega, by omega, rfl, rfl, hid_mk (by simp)⟩
        case round =>
          obtain ⟨b, y, hy0, hyl, rfl, rfl, hy⟩ := hrel
          by_cases hn : y % 5 = 0
          · have hn' : ((y : Int) % 5 == 0) = true := by simp; omega
            have hl := half_le y 5 (by omega) hy0 hn
            go_wp2
            go_round
            case rel => exact ⟨b + 1, y / 5, hl.2, by omega, by go_num, by go_num, hid_mk (half _ _ _ _ hy.out hn)⟩
            case measure => simp [intOf]; omega
          · have hn' : ((y : Int) % 5 == 0) = false := by simp; omega
            obtain ⟨hmin, hfac⟩ := fac_nat P a b x y (by omega) hlt hx.out.symm (by omega) hy.out.symm (by omega)
            have hDm : D = 9 - min a b := HD.out.symm.trans hfac
            by_cases hba : b < a
            · have hE : (D : Int) = 9 - (b : Int) := by omega
              have hE' : ((D : Int) == 9 - (b : Int)) = true := by simpa using hE
              clear hE hDm hfac hmin
              go_wp2
              go_ret
              exact ⟨rfl, hgr⟩
            · have hE : (D : Int) = 9 - (a : Int) := by omega
              have hE' : ((D : Int) == 9 - (a : Int)) = true := by simpa using hE
              clear hE hDm hfac hmin
              go_wp2
              go_ret
              exact ⟨rfl, hgr⟩

set_option maxHeartbeats 1000000 in
theorem mirror_some (a0 a1 : Int) (w : World) (h0 : -9223372036854775808 ≤ a0) (h1 : a0 ≤ 9223372036854775807) (h2 : 0 < a1) (h3 : a1 ≤ 999) :
    Calls Try.prog 4 #[.int .i64 a0, .int .u16 a1] w fun e w' => e = .returned (.bool true) ∧ Grown w w' := by
  have c2' : (a1 == 0) = false := by simp; omega
  obtain ⟨P, hP, hlt⟩ := past_nat a0 a1 (by omega) (by omega)
  obtain ⟨D, hD⟩ : ∃ D, dg 9 (P : Int) = D := ⟨_, rfl⟩
  have HP : Hid (past a0 a1 = P) := hP
  have HD : Hid (dg 9 (P : Int) = D) := hD
  have HD1 : Hid (dg 9 (past a0 a1) = D) := by rw [hP]; exact hD
  have HD2 : Hid (dg 9 (past (bits .xor .i64 (-1) a0) (1000 - a1)) = D) := (mir1 a0 a1 h0 h1).trans HD1.out
  clear hP hD
  go_enter Try.func4, Try.ntmps4
  go_wp2_with fail
  refine (new_any _ _ _).mono ?_
  rintro e w1 ⟨rfl, c, rfl⟩
  go_wp2_with fail
  refine (digits_eq _ _ D (by omega) (by omega) HD1 _).mono ?_
  rintro e w2 ⟨rfl, g2⟩
  go_wp2_with fail
  refine (new_any _ _ _).mono ?_
  rintro e w3 ⟨rfl, c3, rfl⟩
  go_wp2_with fail
  refine (digits_eq _ _ D (by omega) (by omega) HD2 _).mono ?_
  rintro e w4 ⟨rfl, g4⟩
  go_wp2_with fail
  refine (pastn_eq _ _ P (by omega) (by omega) HP _).mono ?_
  rintro e w5 ⟨rfl, rfl⟩
  have hgr : Grown w w5 := grown_trans (grown_trans ((Grown.refl _).alloc _ _) g2) (grown_trans ((Grown.refl _).alloc _ _) g4)
  clear g2 g4
  by_cases hp0 : P = 0
  · have hD0 : D = 0 := by rw [← HD.out, hp0]; rfl
    subst hp0 hD0
    go_wp2
    go_ret
    exact ⟨rfl, hgr⟩
  · have hp0' : ((P : Int) == 0) = false := by simpa using hp0
    go_wp2
    go_loop [11, 12] (fun v q => ∃ k x : Nat, 0 < x ∧ k + x ≤ P ∧ v = .int .i64 k ∧ q = .int .i64 x ∧ Hid (x * 2 ^ k = P)) (fun _ q => (intOf q).toNat)
    case atStart => exact ⟨0, P, by omega, by omega, rfl, rfl, hid_mk (by simp)⟩
    case round =>
      obtain ⟨a, x, hx0, hxl, rfl, rfl, hx⟩ := hrel
      by_cases hm : x % 2 = 0
      · have hm' : ((x : Int) % 2 == 0) = true := by simp; omega
        have hl := half_le x 2 (by omega) hx0 hm
        go_wp2
        go_round
        case rel => exact ⟨a + 1, x / 2, hl.2, by omega, by go_num, by go_num, hid_mk (half _ _ _ _ hx.out hm)⟩
        case measure => simp [intOf]; omega
      · have hm' : ((x : Int) % 2 == 0) = false := by simp; omega
        go_wp2
        go_loop [13, 12] (fun v q => ∃ k x : Nat, 0 < x ∧ k + x ≤ P ∧ v = .int .i64 k ∧ q = .int .i64 x ∧ Hid (x * 5 ^ k = P)) (fun _ q => (intOf q).toNat)
        case atStart => exact ⟨0, P, by omega, by omega, rfl, rfl, hid_mk (by simp)⟩
        case round =>
          obtain ⟨b, y, hy0, hyl, rfl, rfl, hy⟩ := hrel
          by_cases hn : y % 5 = 0
          · have hn' : ((y : Int) % 5 == 0) = true := by simp; omega
            have hl := half_le y 5 (by omega) hy0 hn
            go_wp2
            go_round
            case rel => exact ⟨b + 1, y / 5, hl.2, by omega, by go_num, by go_num, hid_mk (half _ _ _ _ hy.out hn)⟩
            case measure => simp [intOf]; omega
          · have hn' : ((y : Int) % 5 == 0) = false := by simp; omega
            obtain ⟨hmin, hfac⟩ := fac_nat P a b x y (by omega) hlt hx.out.symm (by omega) hy.out.symm (by omega)
            have hDm : D = 9 - min a b := HD.out.symm.trans hfac
            by_cases hba : b < a
            · have hE : (D : Int) = 9 - (b : Int) := by omega
              have hE' : ((D : Int) == 9 - (b : Int)) = true := by simpa using hE
              clear hE hDm hfac hmin
              go_wp2
              go_ret
              exact ⟨rfl, hgr⟩
            · have hE : (D : Int) = 9 - (a : Int) := by omega
              have hE' : ((D : Int) == 9 - (a : Int)) = true := by simpa using hE
              clear hE hDm hfac hmin
              go_wp2
              go_ret
              exact ⟨rfl, hgr⟩

end Go.Proofs.Qxb6628956a
