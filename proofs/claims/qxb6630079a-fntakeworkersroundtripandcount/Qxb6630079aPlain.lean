namespace Go.Proofs.Qxb6630079a
/-- The last place below k at which the name x stands. -/
def lastTo (N : List (List UInt8)) : Nat → List UInt8 → Option Nat
  | 0, _ => none
  | k + 1, x => if N.getD k [] = x then some k else lastTo N k x
/-- Does the name of place i stand there for the first time? -/
def isFirst (N : List (List UInt8)) (i : Nat) : Bool := (lastTo N i (N.getD i [])).isNone
/-- The places below k at which a name stands for the first time. -/
def firstsTo (N : List (List UInt8)) (k : Nat) : List Nat := (List.range k).filter (isFirst N)
/-- The last place of the name of place i. -/
def lastOf (N : List (List UInt8)) (i : Nat) : Nat := (lastTo N N.length (N.getD i [])).getD i

theorem lastTo_some {N : List (List UInt8)} {k j : Nat} {x : List UInt8} (h : lastTo N k x = some j) : j < k ∧ N.getD j [] = x ∧ ∀ m, j < m → m < k → N.getD m [] ≠ x := by
  induction k with
  | zero => cases h
  | succ k ih =>
    unfold lastTo at h
    by_cases e : N.getD k [] = x
    · rw [if_pos e] at h
      cases h
      exact ⟨by omega, e, fun m h1 h2 => by omega⟩
    · rw [if_neg e] at h
      obtain ⟨h1, h2, h3⟩ := ih h
      exact ⟨by omega, h2, fun m h4 h5 => by
        by_cases e' : m = k
        · subst e'; exact e
        · exact h3 m h4 (by omega)⟩
theorem lastTo_none {N : List (List UInt8)} {k : Nat} {x : List UInt8} : lastTo N k x = none ↔ ∀ m, m < k → N.getD m [] ≠ x := by
  induction k with
  | zero => simp [lastTo]
  | succ k ih =>
    unfold lastTo
    by_cases e : N.getD k [] = x
    · rw [if_pos e]
      constructor
      · intro h; cases h
      · intro h; exact absurd e (h k (by omega))
    · rw [if_neg e, ih]
      constructor
      · intro h m hm
        by_cases e' : m = k
        · subst e'; exact e
        · exact h m (by omega)
      · intro h m hm; exact h m (by omega)
theorem lastTo_is {N : List (List UInt8)} {k j : Nat} {x : List UInt8} (hj : j < k) (hx : N.getD j [] = x) (h : ∀ m, j < m → m < k → N.getD m [] ≠ x) : lastTo N k x = some j := by
  induction k with
  | zero => omega
  | succ k ih =>
    unfold lastTo
    by_cases e : j = k
    · subst e; rw [if_pos hx]
    · rw [if_neg (h k (by omega) (by omega))]
      exact ih (by omega) fun m h1 h2 => h m h1 (by omega)
theorem isFirst_iff {N : List (List UInt8)} {i : Nat} : isFirst N i = true ↔ ∀ m, m < i → N.getD m [] ≠ N.getD i [] := by
  unfold isFirst; rw [Option.isNone_iff_eq_none]; exact lastTo_none
theorem isFirst_no {N : List (List UInt8)} {i m : Nat} (hm : m < i) (h : N.getD m [] = N.getD i []) : isFirst N i = false := by
  cases hf : isFirst N i
  · rfl
  · exact absurd h (isFirst_iff.1 hf m hm)
theorem firstsTo_succ (N : List (List UInt8)) (k : Nat) : firstsTo N (k + 1) = firstsTo N k ++ if isFirst N k = true then [k] else [] := by
  unfold firstsTo
  rw [List.range_succ, List.filter_append]
  by_cases h : isFirst N k = true <;> simp [h]
theorem firstsTo_yes {N : List (List UInt8)} {k : Nat} (h : isFirst N k = true) : firstsTo N (k + 1) = firstsTo N k ++ [k] := by rw [firstsTo_succ, if_pos h]
theorem firstsTo_no {N : List (List UInt8)} {k : Nat} (h : isFirst N k = false) : firstsTo N (k + 1) = firstsTo N k := by rw [firstsTo_succ, h]; simp
theorem firstsTo_len (N : List (List UInt8)) (k : Nat) : (firstsTo N k).length ≤ k := by
  have := List.length_filter_le (isFirst N) (List.range k)
  rw [List.length_range] at this; exact this
theorem firstsTo_mem {N : List (List UInt8)} {k i : Nat} : i ∈ firstsTo N k ↔ i < k ∧ isFirst N i = true := by
  unfold firstsTo; rw [List.mem_filter, List.mem_range]
/-- The first places up to n begin with those up to i. -/
theorem firstsTo_split (N : List (List UInt8)) (i n : Nat) (h : i ≤ n) : ∃ r, firstsTo N n = firstsTo N i ++ r := by
  induction n with
  | zero => exact ⟨[], by rw [show i = 0 by omega]; simp⟩
  | succ n ih =>
    by_cases e : i = n + 1
    · subst e; exact ⟨[], by simp⟩
    · obtain ⟨r, hr⟩ := ih (by omega)
      rw [firstsTo_succ, hr]
      exact ⟨r ++ _, List.append_assoc _ _ _⟩
theorem lastOf_spec {N : List (List UInt8)} {i : Nat} (hi : i < N.length) : lastTo N N.length (N.getD i []) = some (lastOf N i) ∧ i ≤ lastOf N i ∧ lastOf N i < N.length ∧ N.getD (lastOf N i) [] = N.getD i [] := by
  unfold lastOf
  cases hl : lastTo N N.length (N.getD i []) with
  | none => exact absurd rfl (lastTo_none.1 hl i hi)
  | some j =>
    obtain ⟨h1, h2, h3⟩ := lastTo_some hl
    refine ⟨rfl, ?_, h1, h2⟩
    simp only [Option.getD_some]
    rcases Nat.lt_or_ge j i with h | h
    · exact absurd rfl (h3 i h hi)
    · exact h
/-- How 'zzLast' finds it: from the end down. -/
theorem lastOf_is {N : List (List UInt8)} {i j : Nat} (hj : j < N.length) (hx : N.getD j [] = N.getD i []) (h : ∀ m, j < m → m < N.length → N.getD m [] ≠ N.getD i []) : lastOf N i = j := by
  unfold lastOf; rw [lastTo_is hj hx h]; rfl

/-- The places whose name's last worker is registered (reg: the flags), in the order in which the names first appear. -/
def regsTo (N : List (List UInt8)) (reg : Nat → Bool) (k : Nat) : List Nat := (firstsTo N k).filter fun i => reg (lastOf N i)
def gonesTo (N : List (List UInt8)) (reg : Nat → Bool) (k : Nat) : List Nat := (firstsTo N k).filter fun i => !reg (lastOf N i)
theorem regs_gones (N : List (List UInt8)) (reg : Nat → Bool) (k : Nat) : (regsTo N reg k).length + (gonesTo N reg k).length = (firstsTo N k).length := by
  unfold regsTo gonesTo
  induction firstsTo N k with
  | nil => rfl
  | cons a l ih =>
    by_cases h : reg (lastOf N a) = true <;> simp [h] at ih ⊢ <;> omega
theorem regsTo_skip {N : List (List UInt8)} {reg : Nat → Bool} {k : Nat} (h : isFirst N k = false) : regsTo N reg (k + 1) = regsTo N reg k ∧ gonesTo N reg (k + 1) = gonesTo N reg k := by
  unfold regsTo gonesTo; rw [firstsTo_no h]; exact ⟨rfl, rfl⟩
theorem regsTo_reg {N : List (List UInt8)} {reg : Nat → Bool} {k : Nat} (h : isFirst N k = true) (hr : reg (lastOf N k) = true) : regsTo N reg (k + 1) = regsTo N reg k ++ [k] ∧ gonesTo N reg (k + 1) = gonesTo N reg k := by
  unfold regsTo gonesTo; rw [firstsTo_yes h]; simp [hr]
theorem regsTo_gone {N : List (List UInt8)} {reg : Nat → Bool} {k : Nat} (h : isFirst N k = true) (hr : reg (lastOf N k) = false) : regsTo N reg (k + 1) = regsTo N reg k ∧ gonesTo N reg (k + 1) = gonesTo N reg k ++ [k] := by
  unfold regsTo gonesTo; rw [firstsTo_yes h]; simp [hr]
theorem regsTo_split (N : List (List UInt8)) (reg : Nat → Bool) (i n : Nat) (h : i ≤ n) : (∃ r, regsTo N reg n = regsTo N reg i ++ r) ∧ ∃ r, gonesTo N reg n = gonesTo N reg i ++ r := by
  obtain ⟨r, hr⟩ := firstsTo_split N i n h
  unfold regsTo gonesTo
  rw [hr]
  exact ⟨⟨_, List.filter_append _ _⟩, ⟨_, List.filter_append _ _⟩⟩
theorem regsTo_at {N : List (List UInt8)} {reg : Nat → Bool} {i n : Nat} (hi : i < n) (h : isFirst N i = true) (hr : reg (lastOf N i) = true) : (regsTo N reg n)[(regsTo N reg i).length]? = some i := by
  obtain ⟨⟨r, h1⟩, _⟩ := regsTo_split N reg (i + 1) n hi
  rw [h1, (regsTo_reg h hr).1]; simp
theorem gonesTo_at {N : List (List UInt8)} {reg : Nat → Bool} {i n : Nat} (hi : i < n) (h : isFirst N i = true) (hr : reg (lastOf N i) = false) : (gonesTo N reg n)[(gonesTo N reg i).length]? = some i := by
  obtain ⟨_, ⟨r, h1⟩⟩ := regsTo_split N reg (i + 1) n hi
  rw [h1, (regsTo_gone h hr).2]; simp
end Go.Proofs.Qxb6630079a
