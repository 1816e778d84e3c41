import Derived.Test.Qxb6630079aMem
namespace Go.Proofs.Qxb6630079a
open Go.RowKit

theorem ex_drew (w : World) (q n : Nat) : ∃ q', (w.drewN q).drewN n = w.drewN q' := ⟨q + n, by simp⟩
theorem ret_int {k : IntKind} {a b : Int} (h : a = b) : Ending.returned (.int k a) = .returned (.int k b) := by rw [h]
/-- A worker as data: its name, its queues (nil or not), its status, its time to live, whether it is registered. -/
abbrev WA := ByteArray × Option (List ByteArray) × ByteArray × Int × Bool
def WsAt (w : World) (b off : Nat) (A : List WA) : Prop :=
  ∀ j (h : j < A.length), w.cell? ⟨b, off + j * 5, none⟩ = some (.string A[j].1) ∧ (∃ v, w.cell? ⟨b, off + j * 5 + 1, none⟩ = some v ∧ Q w v A[j].2.1) ∧
    w.cell? ⟨b, off + j * 5 + 2, none⟩ = some (.string A[j].2.2.1) ∧ w.cell? ⟨b, off + j * 5 + 3, none⟩ = some (.int .i64 A[j].2.2.2.1) ∧ w.cell? ⟨b, off + j * 5 + 4, none⟩ = some (.bool A[j].2.2.2.2)
theorem WsAt.stays {w w' : World} {b off : Nat} {A : List WA} (h : WsAt w b off A) (hb : Below w.heap.size w w') : WsAt w' b off A := by
  intro j hj
  obtain ⟨h1, ⟨v, h2, h3⟩, h4, h5, h6⟩ := h j hj
  exact ⟨cell_stays h1 hb, ⟨v, cell_stays h2 hb, h3.stays hb⟩, cell_stays h4 hb, cell_stays h5 hb, cell_stays h6 hb⟩
/-- The names, as bytes. -/
def nmsOf (A : List WA) : List (List UInt8) := A.map fun a => a.1.data.toList
theorem nmsOf_len (A : List WA) : (nmsOf A).length = A.length := by simp [nmsOf]
theorem nmsOf_at (A : List WA) (j : Nat) (h : j < A.length) : (nmsOf A).getD j [] = A[j].1.data.toList := by simp [nmsOf, List.getD, h]
theorem name_at {w : World} {g : Nat} {A : List WA} (h : WsAt w g 0 A) (j : Nat) (hj : j < A.length) : ∃ s : ByteArray, w.cell? ⟨g, j * 5, none⟩ = some (.string s) ∧ s.data.toList = (nmsOf A).getD j [] := by
  have := (h j hj).1
  rw [Nat.zero_add] at this
  exact ⟨_, this, (nmsOf_at A j hj).symm⟩

set_option maxHeartbeats 1000000 in
/-- 'zzFirstB1'. -/
theorem first_walk (A : List WA) (g cap i : Nat) (hi : i < A.length) (hlen : A.length ≤ 1048576) (w : World) (hA : WsAt w g 0 A) :
    Calls Try.prog 10 #[.slice (some ⟨g, 0, none⟩) A.length cap, .int .i64 (i : Int)] w fun e w' => e = .returned (.bool (isFirst (nmsOf A) i)) ∧ ∃ q, w' = w.drewN q := by
  go_enter Try.func10, Try.ntmps10
  go_wp2
  go_loopw [5] (fun j wr => ∃ k : Nat, k ≤ i ∧ j = .int .i64 k ∧ Hid (∀ m, m < k → (nmsOf A).getD m [] ≠ (nmsOf A).getD i []) ∧ (∃ q, Hid (wr = w.drewN q))) (fun j _ => i - (intOf j).toNat)
  case atStart => exact ⟨0, by omega, rfl, hid_mk (fun m h => by omega), 0, hid_mk rfl⟩
  case round =>
    obtain ⟨k, hk, rfl, hno, q, HW⟩ := hrel
    have hw := HW.out
    subst hw
    by_cases hlt : k < i
    · obtain ⟨s1, c1, e1⟩ := name_at hA k (by omega)
      obtain ⟨s2, c2, e2⟩ := name_at hA i hi
      have E1 := hid_mk e1; have E2 := hid_mk e2
      clear e1 e2
      have heq : (s1.toList == s2.toList) = decide ((nmsOf A).getD k [] = (nmsOf A).getD i []) := by
        rw [ByteArray.toList_eq, ByteArray.toList_eq, E1.out, E2.out]
        rw [Bool.eq_iff_iff]; simp
      by_cases hsame : (nmsOf A).getD k [] = (nmsOf A).getD i []
      · have hb : (s1.toList == s2.toList) = true := by rw [heq]; exact decide_eq_true hsame
        have HF := hid_mk (isFirst_no hlt hsame)
        clear heq hsame
        go_wp2
        go_quiet (fail)
        go_wp2
        go_ret
        exact ⟨ret_bool HF.out.symm, ex_drew _ _ _⟩
      · have hb : (s1.toList == s2.toList) = false := by rw [heq]; exact decide_eq_false hsame
        have HN : Hid (∀ m, m < k + 1 → (nmsOf A).getD m [] ≠ (nmsOf A).getD i []) := hid_mk (fun m hm => by
          by_cases e : m = k
          · subst e; exact hsame
          · exact hno.out m (by omega))
        clear heq hsame
        go_wp2
        go_quiet (fail)
        go_wp2
        go_roundw
        case rel => exact ⟨k + 1, by omega, by go_num, HN, _, hid_mk rfl⟩
        case measure => simp [intOf]; omega
    · have e : k = i := by omega
      subst e
      have HF := hid_mk (isFirst_iff.2 hno.out)
      go_wp2
      go_ret
      exact ⟨ret_bool HF.out.symm, _, rfl⟩

set_option maxHeartbeats 1000000 in
/-- 'zzLastB1'. -/
theorem last_walk (A : List WA) (g cap i : Nat) (hi : i < A.length) (hlen : A.length ≤ 1048576) (w : World) (hA : WsAt w g 0 A) :
    Calls Try.prog 11 #[.slice (some ⟨g, 0, none⟩) A.length cap, .int .i64 (i : Int)] w fun e w' => e = .returned (.int .i64 (lastOf (nmsOf A) i : Nat)) ∧ ∃ q, w' = w.drewN q := by
  go_enter Try.func11, Try.ntmps11
  go_wp2
  go_loopw [5] (fun j wr => ∃ k : Nat, i ≤ k ∧ k < A.length ∧ j = .int .i64 k ∧ Hid (∀ m, k < m → m < A.length → (nmsOf A).getD m [] ≠ (nmsOf A).getD i []) ∧ (∃ q, Hid (wr = w.drewN q))) (fun j _ => (intOf j).toNat)
  case atStart => exact ⟨A.length - 1, by omega, by omega, by go_num, hid_mk (fun m h h' => by omega), 0, hid_mk rfl⟩
  case round =>
    obtain ⟨k, hk, hkl, rfl, hno, q, HW⟩ := hrel
    have hw := HW.out
    subst hw
    by_cases hlt : i < k
    · obtain ⟨s1, c1, e1⟩ := name_at hA k (by omega)
      obtain ⟨s2, c2, e2⟩ := name_at hA i hi
      have E1 := hid_mk e1; have E2 := hid_mk e2
      clear e1 e2
      have heq : (s1.toList == s2.toList) = decide ((nmsOf A).getD k [] = (nmsOf A).getD i []) := by
        rw [ByteArray.toList_eq, ByteArray.toList_eq, E1.out, E2.out]
        rw [Bool.eq_iff_iff]; simp
      by_cases hsame : (nmsOf A).getD k [] = (nmsOf A).getD i []
      · have hb : (s1.toList == s2.toList) = true := by rw [heq]; exact decide_eq_true hsame
        have HF := hid_mk (lastOf_is (by rw [nmsOf_len]; exact hkl) hsame (by rw [nmsOf_len]; exact hno.out))
        clear heq hsame
        go_wp2
        go_quiet (fail)
        go_wp2
        go_ret
        exact ⟨ret_int (by rw [HF.out]), ex_drew _ _ _⟩
      · have hb : (s1.toList == s2.toList) = false := by rw [heq]; exact decide_eq_false hsame
        have HN : Hid (∀ m, k - 1 < m → m < A.length → (nmsOf A).getD m [] ≠ (nmsOf A).getD i []) := hid_mk (fun m hm hm' => by
          by_cases e : m = k
          · subst e; exact hsame
          · exact hno.out m (by omega) hm')
        clear heq hsame
        go_wp2
        go_quiet (fail)
        go_wp2
        go_roundw
        case rel => exact ⟨k - 1, by omega, by omega, by go_num, HN, _, hid_mk rfl⟩
        case measure => simp [intOf]; omega
    · have e : k = i := by omega
      subst e
      have HF := hid_mk (lastOf_is (by rw [nmsOf_len]; exact hkl) rfl (by rw [nmsOf_len]; exact hno.out))
      go_wp2
      go_ret
      exact ⟨ret_int (by rw [HF.out]), _, rfl⟩
end Go.Proofs.Qxb6630079a
