import Derived.Test.Qxb6630051aUv
namespace Go.Proofs.Qxb6630051a
open Go.RowKit

theorem drop_getD (l : List Nat) (p i : Nat) : (l.drop p).getD i 0 = l.getD (p + i) 0 := by
  simp [List.getD, List.getElem?_drop]

set_option maxRecDepth 100000 in
set_option maxHeartbeats 1000000 in
theorem uvm_nil (w : World) : Calls Try.prog 11 #[.slice none 0 0, .int .i64 0] w fun e w' => e = .returned (.tuple #[.int .u64 0, .int .i64 0, .bool false]) ∧ w' = w := by
  go_enter Try.func11, Try.ntmps11
  go_wp2
  go_loop [7] (fun j => j = .int .i64 0) (fun _ => 0)
  case atStart => rfl
  case round =>
    subst hrel
    go_wp2
    go_ret3
    exact ⟨rfl, rfl⟩

/-- What 'readUvarintModel' answers at p. -/
def uvmV (p : Nat) : Option (Nat × Nat) → Value
  | some (v, n) => .tuple #[.int .u64 (v : Int), .int .i64 ((p : Int) + (n : Int)), .bool true]
  | none => .tuple #[.int .u64 0, .int .i64 0, .bool false]
theorem ret_no {p : Nat} {o : Option (Nat × Nat)} (h : o = none) : Ending.returned (.tuple #[.int .u64 0, .int .i64 0, .bool false]) = .returned (uvmV p o) := by subst h; rfl
theorem ret_yes {p v n : Nat} {o : Option (Nat × Nat)} (h : o = some (v, n)) {x y : Int} (hx : x = v) (hy : y = (p : Int) + n) : Ending.returned (.tuple #[.int .u64 x, .int .i64 y, .bool true]) = .returned (uvmV p o) := by subst h hx hy; rfl

set_option maxRecDepth 100000 in
set_option maxHeartbeats 1000000 in
theorem uvm_walk (l : List Nat) (p B off cap : Nat) (w : World) (hr : Row w B off l) (hlen : l.length ≤ 2097152) (hp : p ≤ l.length) :
    Calls Try.prog 11 #[.slice (some ⟨B, off, none⟩) l.length cap, .int .i64 p] w fun e w' =>
      e = .returned (uvmV p (uv (l.drop p))) ∧ w' = w := by
  have hmlen : (l.drop p).length = l.length - p := List.length_drop
  have HML := hid_mk hmlen
  clear hmlen
  go_enter Try.func11, Try.ntmps11
  go_wp2
  go_loop [7] (fun j => ∃ k : Nat, p + k ≤ l.length ∧ j = .int .i64 ((p : Int) + k) ∧ Hid (Hi (l.drop p) k)) (fun j => l.length - (intOf j).toNat)
  case atStart => exact ⟨0, by omega, by go_num, hid_mk (Hi.zero _)⟩
  case round =>
    obtain ⟨k, hk, rfl, hh⟩ := hrel
    by_cases hlt : p + k < l.length
    · have hc := hr.2 (p + k) hlt
      have hb := hr.1 (p + k)
      have hmk : k < (l.drop p).length := by rw [HML.out]; omega
      have HY : Hid ((l.drop p).getD k 0 = l.getD (p + k) 0) := hid_mk (drop_getD l p k)
      generalize l.getD (p + k) 0 = y at *
      have ht : ((p : Int) + k).toNat = p + k := by omega
      by_cases hy : 128 ≤ y
      · have HI := hid_mk (hh.out.succ hmk (by rw [HY.out]; exact hy))
        go_wp2
        go_round
        case rel => exact ⟨k + 1, by omega, by go_num, HI⟩
        case measure => simp [intOf]; omega
      · have he : ((p : Int) + k == (l.length : Int)) = false := beq_eq_false_iff_ne.2 (by omega)
        have hk1 : ((p : Int) + k - p) = (k : Int) := by omega
        by_cases h9 : 9 < k
        · have HN := hid_mk (uv_nine hh.out hmk (by rw [HY.out]; omega) (.inl h9))
          go_wp2
          go_ret3
          exact ⟨ret_no HN.out, rfl⟩
        · by_cases h91 : k = 9 ∧ 1 < y
          · have HN := hid_mk (uv_nine hh.out hmk (by rw [HY.out]; omega) (.inr ⟨h91.1, by rw [HY.out]; exact h91.2⟩))
            have h9' : ((k : Int) == 9) = true := beq_iff_eq.2 (by omega)
            have hy1 : 1 < y := h91.2
            clear h91
            go_wp2
            go_ret3
            exact ⟨ret_no HN.out, rfl⟩
          · have HE := hid_mk (uv_stop hh.out hmk (by rw [HY.out]; omega) (by omega) (by rw [HY.out]; omega))
            have HB : Hid (k ≤ 8 ∨ k = 9 ∧ y ≤ 1) := hid_mk (by omega)
            have hcase : ((k : Int) == 9) = true ∧ ¬ 1 < y ∨ ((k : Int) == 9) = false := by
              by_cases h : k = 9
              · exact .inl ⟨beq_iff_eq.2 (by omega), by omega⟩
              · exact .inr (beq_eq_false_iff_ne.2 (by omega))
            clear h91
            rcases hcase with ⟨h9', hy1⟩ | h9'
            all_goals
              go_wp2
              go_loop [9, 10] (fun v i => ∃ t : Nat, t ≤ k + 1 ∧ v = .int .u64 (val (l.drop p) t : Nat) ∧ i = .int .i64 t) (fun _ i => k + 1 - (intOf i).toNat)
              case atStart => exact ⟨0, by omega, rfl, rfl⟩
              case round =>
                obtain ⟨t, ht2, rfl, rfl⟩ := hrel
                by_cases htk : t ≤ k
                · have hc2 := hr.2 (p + t) (by omega)
                  have hb2 := hr.1 (p + t)
                  have hbd := step_bd (l.drop p) t (l.getD (p + t) 0) (by
                    rcases HB.out with h | ⟨h, h'⟩
                    · exact .inl (by omega)
                    · by_cases e : t = k
                      · subst e; exact .inr ⟨h, by rw [← drop_getD, HY.out]; exact h'⟩
                      · exact .inl (by omega))
                  have hst := val_step (l.drop p) t (l.getD (p + t) 0) (drop_getD l p t)
                  have HS := hid_mk hst
                  clear hst
                  generalize l.getD (p + t) 0 = z at *
                  have q : bits .and .u8 (z : Int) 127 = (z : Int) % 128 := u8_and127 (z : Int) (by omega) (by omega)
                  have hsh := shl_u64 (z % 128) (7 * t) .u64 (by omega) (by omega) ((z : Int) % 128) (7 * (t : Int)) (by omega) (by omega)
                  have hwr := wrap_u64 (z % 128) (7 * t) (by omega) ((z : Int) % 128) (by omega)
                  have hor := or_u64 (val (l.drop p) t) (z % 128) (7 * t) (val_lt _ t) hbd
                  generalize z % 128 * 2 ^ (7 * t) = Z at *
                  have htt : ((p : Int) + t).toNat = p + t := by omega
                  go_wp2
                  go_round
                  case rel => exact ⟨t + 1, by omega, by rw [HS.out]; go_num, by go_num⟩
                  case measure => simp [intOf]; omega
                · have e : t = k + 1 := by omega
                  subst e
                  go_wp2
                  go_ret3
                  exact ⟨ret_yes HE.out rfl (by omega), rfl⟩
    · have e : p + k = l.length := by omega
      have he : ((p : Int) + k == (l.length : Int)) = true := beq_iff_eq.2 (by omega)
      have HN := hid_mk (uv_end (l := l.drop p) (by have := hh.out; rwa [show k = (l.drop p).length by rw [HML.out]; omega] at this))
      clear e
      go_wp2
      go_ret3
      exact ⟨ret_no HN.out, rfl⟩
end Go.Proofs.Qxb6630051a
