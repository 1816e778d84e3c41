namespace Go.Proofs.Qxb6630051a
/-- What the seven bits of the first k bytes spell. -/
def val (l : List Nat) : Nat → Nat
  | 0 => 0
  | k + 1 => val l k + (l.getD k 0 % 128) * 2 ^ (7 * k)
/-- The number at the head of l, and how many bytes it takes. -/
def uv (l : List Nat) : Option (Nat × Nat) :=
  match l.findIdx? (fun b => decide (b < 128)) with
  | none => none
  | some k => if k ≤ 9 ∧ (k = 9 → l.getD k 0 ≤ 1) then some (val l (k + 1), k + 1) else none
/-- The first k bytes go on. -/
def Hi (l : List Nat) (k : Nat) : Prop := k ≤ l.length ∧ ∀ i, i < k → 128 ≤ l.getD i 0

theorem Hi.zero (l : List Nat) : Hi l 0 := ⟨Nat.zero_le _, fun i h => absurd h (Nat.not_lt_zero i)⟩
theorem Hi.succ {l : List Nat} {k : Nat} (h : Hi l k) (hk : k < l.length) (hb : 128 ≤ l.getD k 0) : Hi l (k + 1) :=
  ⟨hk, fun i hi => by rcases Nat.lt_or_ge i k with h' | h'; exact h.2 i h'; rw [show i = k by omega]; exact hb⟩

theorem find_some {l : List Nat} {k : Nat} (h : Hi l k) (hk : k < l.length) (hb : l.getD k 0 < 128) : l.findIdx? (fun b => decide (b < 128)) = some k := by
  rw [List.findIdx?_eq_some_iff_getElem]
  refine ⟨hk, by simpa [List.getD, List.getElem?_eq_getElem hk] using hb, fun j hj => ?_⟩
  have := h.2 j hj
  rw [List.getD, List.getElem?_eq_getElem (by omega)] at this
  simpa using this
theorem find_none {l : List Nat} (h : Hi l l.length) : l.findIdx? (fun b => decide (b < 128)) = none := by
  rw [List.findIdx?_eq_none_iff]
  intro x hx
  obtain ⟨i, hi, rfl⟩ := List.getElem_of_mem hx
  have := h.2 i hi
  rw [List.getD, List.getElem?_eq_getElem hi] at this
  simpa using this
theorem find_inv {l : List Nat} {k : Nat} (h : l.findIdx? (fun b => decide (b < 128)) = some k) : Hi l k ∧ k < l.length ∧ l.getD k 0 < 128 := by
  rw [List.findIdx?_eq_some_iff_getElem] at h
  obtain ⟨hk, hb, hj⟩ := h
  refine ⟨⟨by omega, fun i hi => ?_⟩, hk, by simpa [List.getD, List.getElem?_eq_getElem hk] using hb⟩
  have := hj i hi
  rw [List.getD, List.getElem?_eq_getElem (by omega)]
  simpa using this

theorem uv_stop {l : List Nat} {k : Nat} (h : Hi l k) (hk : k < l.length) (hb : l.getD k 0 < 128) (h9 : k ≤ 9) (h1 : k = 9 → l.getD k 0 ≤ 1) : uv l = some (val l (k + 1), k + 1) := by
  unfold uv; rw [find_some h hk hb]; simp only; rw [if_pos ⟨h9, h1⟩]
theorem uv_nine {l : List Nat} {k : Nat} (h : Hi l k) (hk : k < l.length) (hb : l.getD k 0 < 128) (h9 : 9 < k ∨ (k = 9 ∧ 1 < l.getD k 0)) : uv l = none := by
  unfold uv; rw [find_some h hk hb]; simp only; rw [if_neg]
  rintro ⟨a, b⟩
  rcases h9 with h9 | ⟨h9, h10⟩
  · omega
  · have := b h9; omega
theorem uv_end {l : List Nat} (h : Hi l l.length) : uv l = none := by
  unfold uv; rw [find_none h]
theorem uv_over {l : List Nat} {k : Nat} (h : Hi l k) (h9 : 9 < k) : uv l = none := by
  unfold uv
  cases hf : l.findIdx? (fun b => decide (b < 128)) with
  | none => rfl
  | some j =>
    simp only
    have hj := find_inv hf
    rw [if_neg]
    rintro ⟨a, _⟩
    have := h.2 j (by omega)
    omega

theorem val_lt (l : List Nat) (k : Nat) : val l k < 2 ^ (7 * k) := by
  induction k with
  | zero => simp [val]
  | succ k ih =>
    unfold val
    have h1 : l.getD k 0 % 128 ≤ 127 := by omega
    have h2 : (l.getD k 0 % 128) * 2 ^ (7 * k) ≤ 127 * 2 ^ (7 * k) := Nat.mul_le_mul_right _ h1
    have h3 : 2 ^ (7 * (k + 1)) = 128 * 2 ^ (7 * k) := by rw [show 7 * (k + 1) = 7 + 7 * k by omega, Nat.pow_add]
    omega

theorem uv_inv {l : List Nat} {v n : Nat} (h : uv l = some (v, n)) : ∃ k, n = k + 1 ∧ v = val l (k + 1) ∧ Hi l k ∧ k < l.length ∧ l.getD k 0 < 128 ∧ k ≤ 9 ∧ (k = 9 → l.getD k 0 ≤ 1) := by
  unfold uv at h
  cases hf : l.findIdx? (fun b => decide (b < 128)) with
  | none => rw [hf] at h; cases h
  | some k =>
    rw [hf] at h
    simp only at h
    by_cases hc : k ≤ 9 ∧ (k = 9 → l.getD k 0 ≤ 1)
    · rw [if_pos hc] at h
      simp only [Option.some.injEq, Prod.mk.injEq] at h
      have := find_inv hf
      exact ⟨k, h.2.symm, h.1.symm, this.1, this.2.1, this.2.2, hc.1, hc.2⟩
    · rw [if_neg hc] at h; cases h

theorem uv_bd {l : List Nat} {v n : Nat} (h : uv l = some (v, n)) : 1 ≤ n ∧ n ≤ 10 ∧ n ≤ l.length ∧ v < 18446744073709551616 := by
  obtain ⟨k, rfl, rfl, hh, hk, hb, h9, h1⟩ := uv_inv h
  refine ⟨by omega, by omega, by omega, ?_⟩
  by_cases e : k = 9
  · subst e
    have := val_lt l 9
    have h2 := h1 rfl
    have e : (2 : Nat) ^ (7 * 9) = 9223372036854775808 := by decide
    show val l 9 + (l.getD 9 0 % 128) * 2 ^ (7 * 9) < _
    rw [e] at this ⊢
    omega
  · have := val_lt l (k + 1)
    have h2 : 2 ^ (7 * (k + 1)) ≤ 2 ^ 63 := Nat.pow_le_pow_right (by decide) (by omega)
    omega

theorem val_congr {l m : List Nat} (k : Nat) (h : ∀ i, i < k → l.getD i 0 = m.getD i 0) : val l k = val m k := by
  induction k with
  | zero => rfl
  | succ k ih => unfold val; rw [ih fun i hi => h i (by omega), h k (by omega)]

/-- The number hangs on its own bytes alone. -/
theorem uv_local {l m : List Nat} {v n : Nat} (h : uv l = some (v, n)) (hm : n ≤ m.length) (he : ∀ i, i < n → l.getD i 0 = m.getD i 0) : uv m = some (v, n) := by
  obtain ⟨k, rfl, rfl, hh, hk, hb, h9, h1⟩ := uv_inv h
  rw [val_congr (k + 1) he]
  refine uv_stop ⟨by omega, fun i hi => ?_⟩ (by omega) ?_ h9 ?_
  · rw [← he i (by omega)]; exact hh.2 i hi
  · rw [← he k (by omega)]; exact hb
  · rw [← he k (by omega)]; exact h1

/-- One member: its id, its address, whether it is a learner; and how many bytes it takes. -/
def mem1 (prev : Nat) (b : List Nat) : Option ((Nat × List Nat × Bool) × Nat) :=
  match uv b with
  | none => none
  | some (id, s) =>
    if id ≤ prev then none
    else if b.length ≤ s then none
    else if 1 < b.getD s 0 then none
    else match uv (b.drop (s + 1)) with
      | none => none
      | some (n, q) => if b.length - (s + 1) - q < n then none else some ((id, (b.drop (s + 1 + q)).take n, b.getD s 0 == 1), s + 1 + q + n)
def mems : Nat → Nat → List Nat → Option (List (Nat × List Nat × Bool) × Nat)
  | 0, _, _ => some ([], 0)
  | n + 1, prev, b =>
    match mem1 prev b with
    | none => none
    | some (m, k) => match mems n m.1 (b.drop k) with
      | none => none
      | some (ms, k') => some (m :: ms, k + k')
def rm (b : List Nat) : Option (List (Nat × List Nat × Bool) × Nat) :=
  match uv b with
  | none => none
  | some (n, s) => match mems n 0 (b.drop s) with
    | none => none
    | some (ms, k) => some (ms, s + k)

theorem mem1_no1 {prev : Nat} {b : List Nat} (h : uv b = none) : mem1 prev b = none := by unfold mem1; rw [h]
theorem mem1_no2 {prev : Nat} {b : List Nat} {id s : Nat} (h : uv b = some (id, s)) (h' : id ≤ prev) : mem1 prev b = none := by unfold mem1; rw [h]; simp [h']
theorem mem1_no3 {prev : Nat} {b : List Nat} {id s : Nat} (h : uv b = some (id, s)) (h' : b.length ≤ s ∨ 1 < b.getD s 0) : mem1 prev b = none := by
  unfold mem1; rw [h]; simp only
  by_cases c1 : id ≤ prev
  · rw [if_pos c1]
  · rw [if_neg c1]
    by_cases c2 : b.length ≤ s
    · rw [if_pos c2]
    · rw [if_neg c2, if_pos (by omega)]
theorem mem1_no4 {prev : Nat} {b : List Nat} {id s : Nat} (h : uv b = some (id, s)) (h' : uv (b.drop (s + 1)) = none) : mem1 prev b = none := by
  unfold mem1; rw [h]; simp only; rw [h']
  by_cases c1 : id ≤ prev
  · rw [if_pos c1]
  · rw [if_neg c1]
    by_cases c2 : b.length ≤ s
    · rw [if_pos c2]
    · rw [if_neg c2]
      by_cases c3 : 1 < b.getD s 0
      · rw [if_pos c3]
      · rw [if_neg c3]
theorem mem1_no5 {prev : Nat} {b : List Nat} {id s n q : Nat} (h : uv b = some (id, s)) (h' : uv (b.drop (s + 1)) = some (n, q)) (hn : b.length - (s + 1) - q < n) : mem1 prev b = none := by
  unfold mem1; rw [h]; simp only; rw [h']
  by_cases c1 : id ≤ prev
  · rw [if_pos c1]
  · rw [if_neg c1]
    by_cases c2 : b.length ≤ s
    · rw [if_pos c2]
    · rw [if_neg c2]
      by_cases c3 : 1 < b.getD s 0
      · rw [if_pos c3]
      · rw [if_neg c3]; simp only; rw [if_pos hn]
theorem mem1_yes {prev : Nat} {b : List Nat} {id s n q : Nat} (h : uv b = some (id, s)) (h1 : ¬ id ≤ prev) (h2 : ¬ b.length ≤ s) (h3 : ¬ 1 < b.getD s 0) (h' : uv (b.drop (s + 1)) = some (n, q)) (hn : ¬ b.length - (s + 1) - q < n) :
    mem1 prev b = some ((id, (b.drop (s + 1 + q)).take n, b.getD s 0 == 1), s + 1 + q + n) := by
  unfold mem1; rw [h]; simp only; rw [h', if_neg h1, if_neg h2, if_neg h3]; simp only; rw [if_neg hn]
theorem mem1_inv {prev : Nat} {b : List Nat} {m : Nat × List Nat × Bool} {k : Nat} (h : mem1 prev b = some (m, k)) :
    ∃ id s n q, uv b = some (id, s) ∧ prev < id ∧ s < b.length ∧ b.getD s 0 ≤ 1 ∧ uv (b.drop (s + 1)) = some (n, q) ∧ n ≤ b.length - (s + 1) - q ∧ m = (id, (b.drop (s + 1 + q)).take n, b.getD s 0 == 1) ∧ k = s + 1 + q + n := by
  cases hu : uv b with
  | none => rw [mem1_no1 hu] at h; cases h
  | some x =>
    obtain ⟨id, s⟩ := x
    by_cases c1 : id ≤ prev
    · rw [mem1_no2 hu c1] at h; cases h
    by_cases c2 : b.length ≤ s
    · rw [mem1_no3 hu (.inl c2)] at h; cases h
    by_cases c3 : 1 < b.getD s 0
    · rw [mem1_no3 hu (.inr c3)] at h; cases h
    cases hw : uv (b.drop (s + 1)) with
    | none => rw [mem1_no4 hu hw] at h; cases h
    | some y =>
      obtain ⟨n, q⟩ := y
      by_cases c4 : b.length - (s + 1) - q < n
      · rw [mem1_no5 hu hw c4] at h; cases h
      · rw [mem1_yes hu c1 c2 c3 hw c4] at h
        simp only [Option.some.injEq, Prod.mk.injEq] at h
        exact ⟨id, s, n, q, rfl, by omega, by omega, by omega, hw, by omega, h.1.symm, h.2.symm⟩
theorem mem1_bd {prev : Nat} {b : List Nat} {m : Nat × List Nat × Bool} {k : Nat} (h : mem1 prev b = some (m, k)) : 3 ≤ k ∧ k ≤ b.length ∧ prev < m.1 := by
  obtain ⟨id, s, n, q, h1, h2, h3, h4, h5, h6, rfl, rfl⟩ := mem1_inv h
  have a := uv_bd h1
  have c := uv_bd h5
  rw [List.length_drop] at c
  exact ⟨by omega, by omega, h2⟩

/-- THE STATE BETWEEN TWO MEMBERS: i of the n members are read ('acc'), the last with the id prev; the next begins at p. -/
def St (b : List Nat) (n i : Nat) (acc : List (Nat × List Nat × Bool)) (prev p : Nat) : Prop :=
  acc.length = i ∧ i ≤ n ∧ p ≤ b.length ∧ 3 * i + 1 ≤ p ∧ prev = (acc.getLast?.map (·.1)).getD 0 ∧ rm b = (mems (n - i) prev (b.drop p)).map fun x => (acc ++ x.1, p + x.2)
theorem St.start {b : List Nat} {n s : Nat} (h : uv b = some (n, s)) : St b n 0 [] 0 s := by
  have := uv_bd h
  refine ⟨rfl, by omega, by omega, by omega, rfl, ?_⟩
  unfold rm; rw [h]; simp only [Nat.sub_zero]
  cases mems n 0 (b.drop s) <;> rfl
theorem St.done {b : List Nat} {n : Nat} {acc : List (Nat × List Nat × Bool)} {prev p : Nat} (h : St b n n acc prev p) : rm b = some (acc, p) := by
  rw [h.2.2.2.2.2, Nat.sub_self]; simp [mems]
theorem St.fail {b : List Nat} {n i : Nat} {acc : List (Nat × List Nat × Bool)} {prev p : Nat} (h : St b n i acc prev p) (hi : i < n) (hm : mem1 prev (b.drop p) = none) : rm b = none := by
  rw [h.2.2.2.2.2, show n - i = (n - i - 1) + 1 by omega, mems, hm]; rfl
theorem St.next {b : List Nat} {n i : Nat} {acc : List (Nat × List Nat × Bool)} {prev p : Nat} (h : St b n i acc prev p) (hi : i < n) {m : Nat × List Nat × Bool} {k : Nat} (hm : mem1 prev (b.drop p) = some (m, k)) : St b n (i + 1) (acc ++ [m]) m.1 (p + k) := by
  have hb := mem1_bd hm
  rw [List.length_drop] at hb
  have h4 := h.2.2.2.1
  refine ⟨by simp [h.1], by omega, by omega, by omega, by simp, ?_⟩
  rw [h.2.2.2.2.2, show n - i = (n - (i + 1)) + 1 by omega, mems, hm]
  simp only [List.drop_drop]
  cases mems (n - (i + 1)) m.1 (b.drop (p + k)) with
  | none => rfl
  | some x => simp [Nat.add_assoc]

/-- n members take 3 n bytes at least. -/
theorem mems_bd : ∀ (n prev : Nat) (b : List Nat) (ms : List (Nat × List Nat × Bool)) (k : Nat), mems n prev b = some (ms, k) → ms.length = n ∧ 3 * n ≤ k ∧ k ≤ b.length
  | 0, _, _, _, _, h => by simp only [mems, Option.some.injEq, Prod.mk.injEq] at h; obtain ⟨rfl, rfl⟩ := h; simp
  | n + 1, prev, b, ms, k, h => by
    unfold mems at h
    cases hm : mem1 prev b with
    | none => rw [hm] at h; cases h
    | some x =>
      obtain ⟨m, k1⟩ := x
      rw [hm] at h
      simp only at h
      cases hr : mems n m.1 (b.drop k1) with
      | none => rw [hr] at h; cases h
      | some y =>
        obtain ⟨ms', k2⟩ := y
        rw [hr] at h
        simp only [Option.some.injEq, Prod.mk.injEq] at h
        obtain ⟨rfl, rfl⟩ := h
        have a := mems_bd n m.1 (b.drop k1) ms' k2 hr
        have c := mem1_bd hm
        rw [List.length_drop] at a
        simp only [List.length_cons]
        omega
theorem rm_many {b : List Nat} {n s : Nat} (h : uv b = some (n, s)) (hn : (b.length - s) / 3 < n) : rm b = none := by
  unfold rm; rw [h]; simp only
  cases hr : mems n 0 (b.drop s) with
  | none => rfl
  | some y =>
    have := mems_bd n 0 _ y.1 y.2 hr
    rw [List.length_drop] at this
    omega
theorem rm_no {b : List Nat} (h : uv b = none) : rm b = none := by unfold rm; rw [h]
end Go.Proofs.Qxb6630051a
