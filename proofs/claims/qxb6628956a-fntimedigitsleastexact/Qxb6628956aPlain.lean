namespace Go.Proofs.Qxb6628956a
/-- The loop of 'Digits': fuel n, nanoseconds p. -/
def dg : Nat → Int → Nat
  | 0, _ => 0
  | n + 1, p => if p % 10 = 0 then dg n (p / 10) else n + 1

theorem dg_step (n : Nat) (x : Int) (h : 0 < n) (h10 : x % 10 = 0) : dg n x = dg (n - 1) (x / 10) := by
  obtain ⟨m, rfl⟩ : ∃ m, n = m + 1 := ⟨n - 1, by omega⟩
  rw [dg, if_pos h10]; rfl
theorem dg_stop (n : Nat) (x : Int) (h : 0 < n) (h10 : ¬ x % 10 = 0) : dg n x = n := by
  obtain ⟨m, rfl⟩ : ∃ m, n = m + 1 := ⟨n - 1, by omega⟩
  rw [dg, if_neg h10]

theorem dg_le (n : Nat) (p : Int) : dg n p ≤ n := by
  induction n generalizing p with
  | zero => simp [dg]
  | succ n ih =>
    unfold dg
    split
    · have := ih (p / 10); omega
    · omega

theorem up_dvd (q x : Int) (m : Nat) (h : (10 : Int) ^ m ∣ q) (e : x = q * 10) : (10 : Int) ^ (m + 1) ∣ x := by
  obtain ⟨c, rfl⟩ := h
  rw [Int.pow_succ]
  exact ⟨c, by rw [e, Int.mul_assoc, Int.mul_assoc, Int.mul_comm c 10]⟩

theorem down_dvd (q x : Int) (m : Nat) (h : (10 : Int) ^ (m + 1) ∣ x) (e : x = q * 10) : (10 : Int) ^ m ∣ q := by
  obtain ⟨c, rfl⟩ := h
  refine ⟨c, ?_⟩
  have : (10 : Int) ^ (m + 1) * c = (10 : Int) ^ m * c * 10 := by
    rw [Int.pow_succ, Int.mul_assoc, Int.mul_assoc, Int.mul_comm c 10]
  omega

theorem dg_dvd (n : Nat) (p : Int) : (10 : Int) ^ (n - dg n p) ∣ p := by
  induction n generalizing p with
  | zero => simp [dg]
  | succ n ih =>
    unfold dg
    split
    · rename_i h
      have hle := dg_le n (p / 10)
      have e : n + 1 - dg n (p / 10) = (n - dg n (p / 10)) + 1 := by omega
      rw [e]
      exact up_dvd _ _ _ (ih (p / 10)) (by omega)
    · simp

theorem dg_ndvd (n : Nat) (p : Int) (h : 0 < dg n p) : ¬ (10 : Int) ^ (n + 1 - dg n p) ∣ p := by
  induction n generalizing p with
  | zero => simp [dg] at h
  | succ n ih =>
    unfold dg at h ⊢
    split
    · rename_i h1
      rw [if_pos h1] at h
      have hle := dg_le n (p / 10)
      have h2 := ih (p / 10) h
      intro hd
      apply h2
      have e : n + 1 + 1 - dg n (p / 10) = (n + 1 - dg n (p / 10)) + 1 := by omega
      rw [e] at hd
      exact down_dvd _ _ _ hd (by omega)
    · rename_i h1
      intro hd
      rw [show n + 1 + 1 - (n + 1) = 1 by omega] at hd
      simp at hd
      omega

theorem pow_dvd (a b : Nat) (h : a ≤ b) : (10 : Int) ^ a ∣ (10 : Int) ^ b := by
  obtain ⟨c, rfl⟩ := Nat.exists_eq_add_of_le h
  exact ⟨10 ^ c, by rw [Int.pow_add]⟩

theorem dg_uniq (p : Int) (d : Nat) (h9 : d ≤ 9) (h1 : (10 : Int) ^ (9 - d) ∣ p) (h2 : 0 < d → ¬ (10 : Int) ^ (10 - d) ∣ p) : dg 9 p = d := by
  have a1 := dg_le 9 p
  have a2 := dg_dvd 9 p
  have a3 := dg_ndvd 9 p
  by_cases c1 : d < dg 9 p
  · exact absurd (Int.dvd_trans (pow_dvd _ _ (by omega)) h1) (a3 (by omega))
  · by_cases c2 : dg 9 p < d
    · exact absurd (Int.dvd_trans (pow_dvd _ _ (by omega)) a2) (h2 (by omega))
    · omega

theorem dg_mirror (p : Int) : dg 9 (1000000000 - p) = dg 9 p := by
  have a1 := dg_le 9 p
  have a2 := dg_dvd 9 p
  have a3 := dg_ndvd 9 p
  have t : ∀ m : Nat, m ≤ 9 → (10 : Int) ^ m ∣ 1000000000 := fun m hm => pow_dvd m 9 hm
  refine dg_uniq _ _ a1 ?_ ?_
  · exact Int.dvd_sub (t _ (by omega)) a2
  · intro h hd
    refine a3 h ?_
    have := Int.dvd_sub (t (10 - dg 9 p) (by omega)) hd
    rw [show (1000000000 : Int) - (1000000000 - p) = p by omega] at this
    exact this

/-- The least digit count: as the law asks. -/
theorem least_yes (p : Int) : p % (10 : Int) ^ (9 - dg 9 p) = 0 := Int.emod_eq_zero_of_dvd (dg_dvd 9 p)
theorem least_no (p : Int) (h : 0 < dg 9 p) : p % (10 : Int) ^ (10 - dg 9 p) ≠ 0 := fun e => dg_ndvd 9 p h (Int.dvd_of_emod_eq_zero e)

theorem fac_nat (P a b x y : Nat) (hP : 0 < P) (hlt : P < 1000000000) (e2 : P = x * 2 ^ a) (n2 : x % 2 ≠ 0) (e5 : P = y * 5 ^ b) (n5 : y % 5 ≠ 0) :
    min a b < 9 ∧ dg 9 (P : Int) = 9 - min a b := by
  have p10 : ∀ m : Nat, 10 ^ m = 2 ^ m * 5 ^ m := fun m => by rw [← Nat.mul_pow]
  have d2 : 2 ^ min a b ∣ P := Nat.dvd_trans (Nat.pow_dvd_pow 2 (Nat.min_le_left a b)) ⟨x, by rw [e2, Nat.mul_comm]⟩
  have d5 : 5 ^ min a b ∣ P := Nat.dvd_trans (Nat.pow_dvd_pow 5 (Nat.min_le_right a b)) ⟨y, by rw [e5, Nat.mul_comm]⟩
  have d10 : 10 ^ min a b ∣ P := by
    rw [p10]; exact Nat.Coprime.mul_dvd_of_dvd_of_dvd (Nat.Coprime.pow _ _ (by decide)) d2 d5
  have nd : ¬ 10 ^ (min a b + 1) ∣ P := by
    intro hd
    rw [p10] at hd
    rcases Nat.le_total a b with h | h
    · rw [Nat.min_eq_left h] at hd
      have h2 : 2 ^ (a + 1) ∣ P := Nat.dvd_trans ⟨_, rfl⟩ hd
      rw [e2, Nat.pow_succ, Nat.mul_comm x, Nat.mul_dvd_mul_iff_left (Nat.pow_pos (by decide))] at h2
      omega
    · rw [Nat.min_eq_right h] at hd
      have h5 : 5 ^ (b + 1) ∣ P := Nat.dvd_trans ⟨_, by rw [Nat.mul_comm]⟩ hd
      rw [e5, Nat.pow_succ, Nat.mul_comm y, Nat.mul_dvd_mul_iff_left (Nat.pow_pos (by decide))] at h5
      omega
  have hm : min a b < 9 := by
    rcases Nat.lt_or_ge (min a b) 9 with h | h
    · exact h
    · have h9 : 10 ^ 9 ∣ P := Nat.dvd_trans (Nat.pow_dvd_pow 10 h) d10
      have := Nat.le_of_dvd hP h9
      omega
  refine ⟨hm, ?_⟩
  have cst : ∀ m : Nat, ((10 : Int) ^ m ∣ (P : Int)) ↔ 10 ^ m ∣ P := fun m => by
    rw [← Int.ofNat_dvd]; simp
  refine dg_uniq _ _ (by omega) ?_ ?_
  · rw [show 9 - (9 - min a b) = min a b by omega, cst]; exact d10
  · intro _
    rw [show 10 - (9 - min a b) = min a b + 1 by omega, cst]; exact nd

/-- Nanoseconds past the whole second. -/
def past (mi na : Int) : Int := mi % 1000000 * 1000 + na
theorem past_bd (mi na : Int) (h0 : 0 ≤ na) (h1 : na ≤ 999) : 0 ≤ past mi na ∧ past mi na ≤ 999999999 := by
  unfold past; omega
theorem past_shift (mi na k : Int) : past (mi + k * 1000000) na = past mi na := by
  unfold past; omega
theorem past_mirror (mi na : Int) : past (-mi - 1) (1000 - na) = 1000000000 - past mi na := by
  unfold past; omega
end Go.Proofs.Qxb6628956a
