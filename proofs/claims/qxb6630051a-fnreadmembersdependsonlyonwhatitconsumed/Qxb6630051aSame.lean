import Derived.Test.Qxb6630051aRead
import Derived.Deep.QuietTactic
import Derived.BigQuiet
namespace Go.Proofs.Qxb6630051a
open Go.RowKit

/-- Members in a row of cells. -/
def MRow (w : World) (g : Nat) (ms : List (Nat × List Nat × Bool)) : Prop :=
  ∀ j (h : j < ms.length), w.cell? ⟨g, j * 3, none⟩ = some (.int .u64 (ms[j].1 : Int)) ∧ w.cell? ⟨g, j * 3 + 1, none⟩ = some (.string (strN ms[j].2.1)) ∧ w.cell? ⟨g, j * 3 + 2, none⟩ = some (.bool ms[j].2.2)
theorem mcells_at3 (ms : List (Nat × List Nat × Bool)) (j : Nat) (h : j < ms.length) : (mcells ms)[j * 3]? = some (.int .u64 (ms[j].1 : Int)) ∧ (mcells ms)[j * 3 + 1]? = some (.string (strN ms[j].2.1)) ∧ (mcells ms)[j * 3 + 2]? = some (.bool ms[j].2.2) := by
  induction ms generalizing j with
  | nil => simp at h
  | cons m ms ih =>
    cases j with
    | zero => simp [mcells, mcell]
    | succ j =>
      have h' : j < ms.length := by simpa using h
      have := ih j h'
      rw [show (j + 1) * 3 = j * 3 + 3 by omega, show j * 3 + 3 + 1 = j * 3 + 1 + 3 by omega, show j * 3 + 3 + 2 = j * 3 + 2 + 3 by omega]
      simpa [mcells, mcell] using this
theorem MRow.of {w : World} {base g c : Nat} {ms : List (Nat × List Nat × Bool)} (h : w.ownsRow base 37 3 (.slice (some ⟨g, 0, none⟩) ms.length c) ms.length (mcells ms)) : MRow w g ms := by
  intro j hj
  have := mcells_at3 ms j hj
  rw [h.cellAt _ (by omega), h.cellAt _ (by omega), h.cellAt _ (by omega)]
  exact this
theorem MRow.below {w w' : World} {g C : Nat} {ms : List (Nat × List Nat × Bool)} (h : MRow w g ms) (hb : Below C w w') (hg : g < C) : MRow w' g ms := by
  intro j hj
  have := h j hj
  rw [hb.cell (p := ⟨g, j * 3, none⟩) hg, hb.cell (p := ⟨g, j * 3 + 1, none⟩) hg, hb.cell (p := ⟨g, j * 3 + 2, none⟩) hg]
  exact this

set_option maxHeartbeats 1000000 in
theorem same_zero (a b : Option Addr) (c c' : Nat) (w : World) : Calls Try.prog 8 #[.slice a 0 c, .slice b 0 c'] w fun e w' => e = .returned (.bool true) ∧ w' = w := by
  go_enter Try.func8, Try.ntmps8
  go_wp2
  go_loop [13] (fun i => i = .int .i64 0) (fun _ => 0)
  case atStart => rfl
  case round =>
    subst hrel
    go_wp2
    go_ret
    exact ⟨rfl, rfl⟩

set_option maxHeartbeats 2000000 in
theorem same_walk (ms : List (Nat × List Nat × Bool)) (g1 g2 c1 c2 : Nat) (hlen : ms.length ≤ 1048576) (w : World) (h1 : MRow w g1 ms) (h2 : MRow w g2 ms) :
    Calls Try.prog 8 #[.slice (some ⟨g1, 0, none⟩) ms.length c1, .slice (some ⟨g2, 0, none⟩) ms.length c2] w fun e w' => e = .returned (.bool true) ∧ ∃ q, w' = w.drewN q := by
  go_enter Try.func8, Try.ntmps8
  go_wp2
  go_loopw [13] (fun i wr => ∃ k : Nat, k ≤ ms.length ∧ i = .int .i64 k ∧ (∃ q, Hid (wr = w.drewN q))) (fun i _ => ms.length - (intOf i).toNat)
  case atStart => exact ⟨0, by omega, rfl, 0, hid_mk rfl⟩
  case round =>
    obtain ⟨k, hk, rfl, q, HW⟩ := hrel
    have hw := HW.out
    subst hw
    by_cases hlt : k < ms.length
    · obtain ⟨a1, a2, a3⟩ := h1 k hlt
      obtain ⟨b1, b2, b3⟩ := h2 k hlt
      generalize ms[k] = m at *
      obtain ⟨id, ad, ln⟩ := m
      generalize strN ad = st at *
      go_wp2
      go_quiet (fail)
      go_wp2
      go_roundw
      case rel => exact ⟨k + 1, by omega, by go_num, _, hid_mk rfl⟩
      case measure => simp [intOf]; omega
    · go_wp2
      go_ret
      exact ⟨rfl, _, rfl⟩

set_option maxHeartbeats 1000000 in
theorem bytes_zero (a b : Option Addr) (c c' : Nat) (w : World) : Calls Try.prog 10 #[.slice a 0 c, .slice b 0 c'] w fun e w' => e = .returned (.bool true) ∧ w' = w := by
  go_enter Try.func10, Try.ntmps10
  go_wp2
  go_loop [13] (fun i => i = .int .i64 0) (fun _ => 0)
  case atStart => rfl
  case round =>
    subst hrel
    go_wp2
    go_ret
    exact ⟨rfl, rfl⟩
set_option maxHeartbeats 1000000 in
theorem bytes_walk (len o1 : Nat) (x2 : Addr) (f : Nat → Nat) (g1 c1 c2 : Nat) (hlen : len ≤ 1048576) (w : World) (h1 : ∀ j, j < len → w.cell? ⟨g1, o1 + j, none⟩ = some (.int .u8 (f j : Nat))) (h2 : ∀ j, j < len → w.cell? (x2.add j) = some (.int .u8 (f j : Nat))) :
    Calls Try.prog 10 #[.slice (some ⟨g1, o1, none⟩) len c1, .slice (some x2) len c2] w fun e w' => e = .returned (.bool true) ∧ ∃ q, w' = w.drewN q := by
  go_enter Try.func10, Try.ntmps10
  go_wp2
  go_loopw [13] (fun i wr => ∃ k : Nat, k ≤ len ∧ i = .int .i64 k ∧ (∃ q, Hid (wr = w.drewN q))) (fun i _ => len - (intOf i).toNat)
  case atStart => exact ⟨0, by omega, rfl, 0, hid_mk rfl⟩
  case round =>
    obtain ⟨k, hk, rfl, q, HW⟩ := hrel
    have hw := HW.out
    subst hw
    by_cases hlt : k < len
    · have a1 := h1 k hlt
      have a2 := h2 k hlt
      generalize f k = y at *
      go_wp2
      go_quiet (fail)
      go_wp2
      go_roundw
      case rel => exact ⟨k + 1, by omega, by go_num, _, hid_mk rfl⟩
      case measure => simp [intOf]; omega
    · go_wp2
      go_ret
      exact ⟨rfl, _, rfl⟩

theorem bound1_yes (a : Option Addr) (len cap : Nat) (h : len ≤ 1048576) (w : World) : Calls Try.prog 5 #[.slice a len cap] w fun e w' => e = .returned (.bool true) ∧ w' = w := by
  go_enter Try.func5, Try.ntmps5
  go_wp2
  go_ret
  exact ⟨rfl, rfl⟩
theorem bound1_no (a : Option Addr) (len cap : Nat) (h : 1048576 < len) (hm : len ≤ maxLen) (w : World) : Calls Try.prog 5 #[.slice a len cap] w fun e w' => e = .returned (.bool false) ∧ w' = w := by
  unfold maxLen at hm
  go_enter Try.func5, Try.ntmps5
  go_wp2
  go_ret
  exact ⟨rfl, rfl⟩
theorem bound2_yes (a b : Option Addr) (len cap len' cap' : Nat) (h : len + len' ≤ 1048576) (w : World) : Calls Try.prog 9 #[.slice a len cap, .slice b len' cap'] w fun e w' => e = .returned (.bool true) ∧ w' = w := by
  go_enter Try.func9, Try.ntmps9
  go_wp2
  go_ret
  exact ⟨rfl, rfl⟩
theorem bound2_no (a b : Option Addr) (len cap len' cap' : Nat) (h : 1048576 < len + len') (hm : len ≤ maxLen) (hm2 : len' ≤ maxLen) (w : World) : Calls Try.prog 9 #[.slice a len cap, .slice b len' cap'] w fun e w' => e = .returned (.bool false) ∧ w' = w := by
  unfold maxLen at hm hm2
  by_cases h1 : 1048576 < len
  · go_enter Try.func9, Try.ntmps9
    go_wp2
    go_ret
    exact ⟨rfl, rfl⟩
  · by_cases h2 : 1048576 < len'
    · go_enter Try.func9, Try.ntmps9
      go_wp2
      go_ret
      exact ⟨rfl, rfl⟩
    · go_enter Try.func9, Try.ntmps9
      go_wp2
      go_ret
      exact ⟨rfl, rfl⟩

theorem rm_bd {l : List Nat} {ms : List (Nat × List Nat × Bool)} {k : Nat} (h : rm l = some (ms, k)) : 1 + 3 * ms.length ≤ k ∧ k ≤ l.length := by
  unfold rm at h
  cases hu : uv l with
  | none => rw [hu] at h; cases h
  | some x =>
    obtain ⟨n, s⟩ := x
    rw [hu] at h
    simp only at h
    cases hm : mems n 0 (l.drop s) with
    | none => rw [hm] at h; cases h
    | some y =>
      obtain ⟨ms', k'⟩ := y
      rw [hm] at h
      simp only [Option.some.injEq, Prod.mk.injEq] at h
      obtain ⟨rfl, rfl⟩ := h
      have a := mems_bd n 0 _ _ _ hm
      have b := uv_bd hu
      rw [List.length_drop] at a
      omega
theorem below_drewN {B : Nat} {a w : World} (h : Below B a w) (q : Nat) : Below B a (w.drewN q) := ⟨h.os, h.tape, h.output, h.size, h.block⟩
end Go.Proofs.Qxb6630051a
