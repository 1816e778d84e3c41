import Derived.Test.Qxb6630051aPlain
namespace Go.Proofs.Qxb6630051a

/-- Two rows of bytes that agree on their first k. -/
def Agree (k : Nat) (b c : List Nat) : Prop := k ≤ b.length ∧ k ≤ c.length ∧ ∀ i, i < k → b.getD i 0 = c.getD i 0
theorem Agree.mono {k j : Nat} {b c : List Nat} (h : Agree k b c) (hj : j ≤ k) : Agree j b c := ⟨by have := h.1; omega, by have := h.2.1; omega, fun i hi => h.2.2 i (by omega)⟩
theorem getD_drop (l : List Nat) (p i : Nat) : (l.drop p).getD i 0 = l.getD (p + i) 0 := by
  simp [List.getD, List.getElem?_drop]
theorem Agree.drop {k p : Nat} {b c : List Nat} (h : Agree (p + k) b c) : Agree k (b.drop p) (c.drop p) := by
  refine ⟨by rw [List.length_drop]; have := h.1; omega, by rw [List.length_drop]; have := h.2.1; omega, fun i hi => ?_⟩
  rw [getD_drop, getD_drop]; exact h.2.2 _ (by omega)
theorem Agree.take {k : Nat} {b c : List Nat} (h : Agree k b c) : b.take k = c.take k := by
  apply List.ext_getElem?
  intro i
  by_cases hi : i < k
  · have h1 := h.1; have h2 := h.2.1; have h3 := h.2.2 i hi
    rw [List.getElem?_take, List.getElem?_take, if_pos hi, if_pos hi, List.getElem?_eq_getElem (by omega), List.getElem?_eq_getElem (by omega)]
    rw [List.getD, List.getD, List.getElem?_eq_getElem (by omega), List.getElem?_eq_getElem (by omega)] at h3
    simpa using h3
  · rw [List.getElem?_take, List.getElem?_take, if_neg hi, if_neg hi]
theorem uv_agree {b c : List Nat} {v n : Nat} (h : uv b = some (v, n)) (ha : Agree n b c) : uv c = some (v, n) := uv_local h ha.2.1 ha.2.2
theorem mem1_agree {prev : Nat} {b c : List Nat} {m : Nat × List Nat × Bool} {k : Nat} (h : mem1 prev b = some (m, k)) (ha : Agree k b c) : mem1 prev c = some (m, k) := by
  obtain ⟨id, s, n, q, h1, h2, h3, h4, h5, h6, rfl, rfl⟩ := mem1_inv h
  have hb := uv_bd h1
  have hb5 := uv_bd h5
  rw [List.length_drop] at hb5
  have hc := ha.2.1
  have hg : b.getD s 0 = c.getD s 0 := ha.2.2 s (by omega)
  have hu := uv_agree h1 (ha.mono (by omega))
  have hd : Agree q (b.drop (s + 1)) (c.drop (s + 1)) := (ha.mono (show s + 1 + q ≤ _ by omega)).drop
  have hu5 := uv_agree h5 hd
  have ht : (b.drop (s + 1 + q)).take n = (c.drop (s + 1 + q)).take n := (Agree.drop (p := s + 1 + q) ha).take
  rw [mem1_yes hu (by omega) (by omega) (by rw [← hg]; omega) hu5 (by omega), ht, hg]
theorem mems_agree : ∀ (n prev : Nat) (b c : List Nat) (ms : List (Nat × List Nat × Bool)) (k : Nat), mems n prev b = some (ms, k) → Agree k b c → mems n prev c = some (ms, k)
  | 0, _, _, _, _, _, h, _ => by simpa [mems] using h
  | n + 1, prev, b, c, ms, k, h, ha => by
    unfold mems at h ⊢
    cases hm : mem1 prev b with
    | none => rw [hm] at h; cases h
    | some x =>
      obtain ⟨m, k1⟩ := x
      rw [hm] at h
      simp only at h
      cases hr : mems n m.1 (b.drop k1) with
      | none => rw [hr] at h; cases h
      | some y =>
        obtain ⟨ms', k2⟩ := y
        rw [hr] at h
        simp only [Option.some.injEq, Prod.mk.injEq] at h
        obtain ⟨rfl, rfl⟩ := h
        rw [mem1_agree hm (ha.mono (by omega))]
        simp only
        rw [mems_agree n m.1 (b.drop k1) (c.drop k1) ms' k2 hr ha.drop]
theorem rm_agree {b c : List Nat} {ms : List (Nat × List Nat × Bool)} {k : Nat} (h : rm b = some (ms, k)) (ha : Agree k b c) : rm c = some (ms, k) := by
  unfold rm at h ⊢
  cases hu : uv b with
  | none => rw [hu] at h; cases h
  | some x =>
    obtain ⟨n, s⟩ := x
    rw [hu] at h
    simp only at h
    cases hm : mems n 0 (b.drop s) with
    | none => rw [hm] at h; cases h
    | some y =>
      obtain ⟨ms', k'⟩ := y
      rw [hm] at h
      simp only [Option.some.injEq, Prod.mk.injEq] at h
      obtain ⟨rfl, rfl⟩ := h
      rw [uv_agree hu (ha.mono (by omega))]
      simp only
      rw [mems_agree n 0 _ _ _ _ hm ha.drop]
/-- What is consumed, followed by whatever. -/
theorem rm_join {l t : List Nat} {ms : List (Nat × List Nat × Bool)} {k : Nat} (h : rm l = some (ms, k)) (hk : k ≤ l.length) : rm (l.take k ++ t) = some (ms, k) := by
  refine rm_agree h ⟨hk, by rw [List.length_append, List.length_take]; omega, fun i hi => ?_⟩
  rw [List.getD, List.getD, List.getElem?_append_left (by rw [List.length_take]; omega), List.getElem?_take, if_pos hi]
end Go.Proofs.Qxb6630051a
