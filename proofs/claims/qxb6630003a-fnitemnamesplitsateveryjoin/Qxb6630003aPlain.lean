namespace Go.Proofs.Qxb6630003a
/-- A byte that stands for itself. -/
def plainC (n : Nat) : Bool := decide (97 ≤ n ∧ n ≤ 122 ∨ 65 ≤ n ∧ n ≤ 90 ∨ 48 ≤ n ∧ n ≤ 57 ∨ n = 95 ∨ n = 45)
def hexd (n : Nat) : Nat := if n < 10 then 48 + n else 87 + n
/-- The bytes, as numbers, that stand for the byte c. -/
def tok (c : Nat) : List Nat := if plainC c = true then [c] else [46, hexd (c / 16), hexd (c % 16)]
def enc (l : List Nat) : List Nat := l.flatMap tok
def nm (l : List Nat) : List Nat := if l = [] then [46] else enc l
/-- How many bytes are escaped. -/
def esc (l : List Nat) : Nat := (l.filter fun c => !plainC c).length

theorem enc_nil : enc [] = [] := rfl
theorem enc_app (a b : List Nat) : enc (a ++ b) = enc a ++ enc b := by simp [enc]
theorem enc_one (c : Nat) : enc [c] = tok c := by simp [enc]
theorem enc_snoc (a : List Nat) (c : Nat) : enc (a ++ [c]) = enc a ++ tok c := by rw [enc_app, enc_one]
theorem esc_snoc (a : List Nat) (c : Nat) : esc (a ++ [c]) = esc a + if plainC c = true then 0 else 1 := by
  unfold esc; rw [List.filter_append, List.length_append]; by_cases h : plainC c = true <;> simp [h]
theorem esc_le (a : List Nat) : esc a ≤ a.length := List.length_filter_le _ _
theorem tok_len (c : Nat) : (tok c).length = 1 + 2 * (if plainC c = true then 0 else 1) := by
  unfold tok; by_cases h : plainC c = true <;> simp [h]
theorem tok_bd (c : Nat) : 1 ≤ (tok c).length ∧ (tok c).length ≤ 3 := by
  rw [tok_len]; split <;> omega
theorem enc_len (l : List Nat) : (enc l).length = l.length + 2 * esc l := by
  induction l with
  | nil => rfl
  | cons c l ih =>
    rw [show c :: l = [c] ++ l from rfl, enc_app, List.length_append, enc_one, tok_len, ih]
    simp [esc, List.filter_cons]
    by_cases h : plainC c = true <;> simp [h] <;> omega
theorem enc_le (l : List Nat) : (enc l).length ≤ 3 * l.length := by
  rw [enc_len]; have := esc_le l; omega
theorem enc_ge (l : List Nat) : l.length ≤ (enc l).length := by rw [enc_len]; omega
theorem enc_plain (l : List Nat) (h : ∀ c ∈ l, plainC c = true) : enc l = l := by
  induction l with
  | nil => rfl
  | cons c l ih =>
    rw [show c :: l = [c] ++ l from rfl, enc_app, enc_one, ih fun x hx => h x (by simp [hx])]
    simp [tok, h c (by simp)]

theorem hexd_lt (n : Nat) (h : n < 16) : hexd n < 256 ∧ 46 < hexd n := by unfold hexd; split <;> omega
theorem tok_lt (c : Nat) (h : c < 256) : ∀ x ∈ tok c, x < 256 := by
  intro x hx
  unfold tok at hx
  by_cases hp : plainC c = true
  · simp [hp] at hx; omega
  · simp [hp] at hx
    have h1 := hexd_lt (c / 16) (by omega)
    have h2 := hexd_lt (c % 16) (by omega)
    rcases hx with rfl | rfl | rfl <;> omega
theorem enc_lt (l : List Nat) (h : ∀ c ∈ l, c < 256) : ∀ x ∈ enc l, x < 256 := by
  intro x hx
  obtain ⟨c, hc, hx⟩ := List.mem_flatMap.1 hx
  exact tok_lt c (h c hc) x hx

/-- A name of a key that is not empty is no lone point. -/
theorem enc_ne (l : List Nat) (h : l ≠ []) : enc l ≠ [46] := by
  intro e
  match l, h with
  | c :: l, _ =>
    have hl := congrArg List.length e
    rw [show c :: l = [c] ++ l from rfl, enc_app, List.length_append, enc_one] at hl
    have := tok_bd c
    have hg := enc_ge l
    simp at hl
    have hl0 : l = [] := List.eq_nil_of_length_eq_zero (by omega)
    subst hl0
    rw [show [c] = [c] from rfl, enc_one] at e
    unfold tok at e
    by_cases hp : plainC c = true
    · simp [hp] at e; subst e; revert hp; decide
    · simp [hp] at e
theorem nm_ne (l : List Nat) (h : l ≠ []) : nm l = enc l := by simp [nm, h]

/-- What stands in 'enc l' behind its first k bytes' tokens. -/
theorem enc_split (l : List Nat) (k : Nat) (h : k < l.length) : enc l = enc (l.take k) ++ tok l[k] ++ enc (l.drop (k + 1)) := by
  rw [← enc_one, ← enc_app, ← enc_app]
  congr 1
  rw [List.append_assoc, List.singleton_append, List.getElem_cons_drop, List.take_append_drop]
theorem enc_take_succ (l : List Nat) (k : Nat) (h : k < l.length) : enc (l.take (k + 1)) = enc (l.take k) ++ tok l[k] := by
  rw [List.take_succ_eq_append_getElem h, enc_snoc]
theorem enc_at (l : List Nat) (k : Nat) (h : k < l.length) (j : Nat) (hj : j < (tok l[k]).length) : (enc l)[(enc (l.take k)).length + j]? = (tok l[k])[j]? := by
  rw [enc_split l k h, List.append_assoc, List.getElem?_append_right (by omega), List.getElem?_append_left (by omega)]
  congr 1; omega
theorem enc_len_take (l : List Nat) (k : Nat) (h : k < l.length) : (enc (l.take k)).length + (tok l[k]).length ≤ (enc l).length := by
  rw [enc_split l k h]; simp

theorem hex_back (c : Nat) : c / 16 * 16 + c % 16 = c := by omega
end Go.Proofs.Qxb6630003a
