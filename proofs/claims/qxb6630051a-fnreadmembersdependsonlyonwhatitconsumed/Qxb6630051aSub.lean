import Derived.Test.Qxb6630051aModel
namespace Go.Proofs.Qxb6630051a
open Go.RowKit

/-- 'b[k:]' of a row of bytes m: the slice, and the row that it leads to. -/
theorem slice_from (kx : IntKind) (m : List Nat) (B off len cap k lenr capr : Nat) (x : Int) (hx : x = k) (hm : m.length = len) (hcap : len ≤ cap) (hk : k ≤ len) (hl : len - k = lenr) (hc : cap - k = capr) :
    ∃ off', (∀ w : World, (Instr.slice 22 (.slice (some ⟨B, off, none⟩) len cap) (some (.int kx x)) none none).run Try.prog w = .ok (.slice (some ⟨B, off', none⟩) lenr capr) w) ∧
      ∀ w, Row w B off m → Row w B off' (m.drop k) := by
  subst hx hl hc
  refine ⟨if cap = k then off else off + k, fun w' => ?_, fun w hr => ⟨fun j => ?_, fun j hj => ?_⟩⟩
  · rw [run_slice_l w' 22 (some ⟨B, off, none⟩) len cap Try.underlying22 kx (k : Int) (by omega) (by omega), size5 w']
    show Result.ok (sliced _ _ _ _ _) w' = _
    have e2 : ((k : Int)).toNat = k := by omega
    rw [e2]
    unfold sliced
    by_cases h : cap = k
    · rw [if_pos h, if_pos h]
    · rw [if_neg h, if_neg h]
      simp [add_lit]
  · rw [drop_getD]; exact hr.1 _
  · rw [List.length_drop] at hj
    rw [if_neg (by omega), drop_getD, Nat.add_assoc]
    exact hr.2 (k + j) (by omega)

/-- 'string(b[:n])' of a row of bytes m. -/
theorem head_str (kx : IntKind) (m : List Nat) (B off len cap n : Nat) (x : Int) (hx : x = n) (hm : m.length = len) (hcap : len ≤ cap) (hn : n ≤ len) :
    ∃ off' cap', (∀ w : World, (Instr.slice 22 (.slice (some ⟨B, off, none⟩) len cap) none (some (.int kx x)) none).run Try.prog w = .ok (.slice (some ⟨B, off', none⟩) n cap') w) ∧
      ∀ w, Row w B off m → (convert 22 9 (.slice (some ⟨B, off', none⟩) n cap')).run Try.prog w = .ok (.string (strN (m.take n))) w := by
  subst hx
  refine ⟨off, cap, fun w' => ?_, fun w hr => ?_⟩
  · rw [run_slice_h w' 22 (some ⟨B, off, none⟩) len cap Try.underlying22 kx (n : Int) (by omega) (by omega), size5 w']
    show Result.ok (sliced _ _ _ _ _) w' = _
    have e2 : ((n : Int)).toNat = n := by omega
    rw [e2]
    unfold sliced
    by_cases h : cap = 0
    · rw [if_pos h, Nat.sub_zero, Nat.sub_zero]
    · rw [if_neg h]
      simp [add_lit]
  · refine run_convert_bytes_arg w 22 5 Try.underlying22 Try.underlying5 B off n cap _ (by simp; omega) (fun i hi => ?_) 9 Try.underlying9
    rw [hr.2 i (by omega)]
    simp only [List.getD, List.getElem?_map, List.getElem?_take, hi, if_true]
    rw [List.getElem?_eq_getElem (show i < m.length by omega)]
    rfl

/-- Uvarint at a row: what it answers. -/
theorem uv_some {m : List Nat} {B off len cap : Nat} {w : World} (hr : Row w B off m) (hm : m.length = len) (hlen : len ≤ 2097152) {v n : Nat} (hu : Hid (uv m = some (v, n))) :
    Calls Try.prog 12 #[.slice (some ⟨B, off, none⟩) len cap] w fun e w' => e = .returned (.tuple #[.int .u64 (v : Int), .int .i64 (n : Int)]) ∧ w' = w := by
  subst hm
  refine (uv_walk m B off cap w hr hlen).mono ?_
  rintro e w' ⟨⟨x, y, rfl, h⟩, rfl⟩
  rcases h with ⟨v', n', h1, rfl, rfl⟩ | ⟨h1, _⟩
  · have := hu.out.symm.trans h1
    simp only [Option.some.injEq, Prod.mk.injEq] at this
    obtain ⟨rfl, rfl⟩ := this
    exact ⟨rfl, rfl⟩
  · rw [hu.out] at h1; cases h1
theorem uv_none {m : List Nat} {B off len cap : Nat} {w : World} (hr : Row w B off m) (hm : m.length = len) (hlen : len ≤ 2097152) (hu : Hid (uv m = none)) :
    Calls Try.prog 12 #[.slice (some ⟨B, off, none⟩) len cap] w fun e w' => (∃ y : Int, y ≤ 0 ∧ e = .returned (.tuple #[.int .u64 0, .int .i64 y])) ∧ w' = w := by
  subst hm
  refine (uv_walk m B off cap w hr hlen).mono ?_
  rintro e w' ⟨⟨x, y, rfl, h⟩, rfl⟩
  rcases h with ⟨v', n', h1, rfl, rfl⟩ | ⟨h1, rfl, hy⟩
  · rw [hu.out] at h1; cases h1
  · exact ⟨⟨y, hy, rfl⟩, rfl⟩
set_option maxRecDepth 100000 in
theorem uv_nil (w : World) : Calls Try.prog 12 #[.slice none 0 0] w fun e w' => e = .returned (.tuple #[.int .u64 0, .int .i64 0]) ∧ w' = w := by
  go_enter Try.func12, Try.ntmps12
  go_wp2
  go_loop [10] (fun i => i = .int .i64 0) (fun _ => 0)
  case atStart => rfl
  case round =>
    subst hrel
    go_wp2
    go_ret2
    exact ⟨rfl, rfl⟩

/-- 'errors.New'. -/
theorem err_any (t : ByteArray) (w : World) : Calls Try.prog 13 #[.string t] w fun e w' => ∃ a, e = .returned (.iface 42 (.pointer (some a))) ∧ Below w.heap.size w w' := by
  go_enter Try.func13, Try.ntmps13
  go_wp2
  go_ret
  exact ⟨_, rfl, (Below.refl _ _).alloc (Nat.le_refl _) _⟩
end Go.Proofs.Qxb6630051a
